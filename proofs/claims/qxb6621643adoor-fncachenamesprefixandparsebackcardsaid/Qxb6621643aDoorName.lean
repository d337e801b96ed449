/-
  Seat b6621643aD: THE WALK OF isCacheName (function 5) at a text that is the prefix and a numeral.
-/
import Derived.Test.Qxb6621643aDoorRows
import Derived.Test.Qxb6621643aDoorPlain
import Derived.WalkKit
import Derived.WalkSpells
import Derived.WalkLawsBesides
import Derived.Deep.QuietTactic
import Derived.BigQuiet
namespace Go.Proofs.Qxb6621643aDoor
open Go.RowKit

theorem ret_bool {a b : Bool} (h : a = b) : Ending.returned (.bool a) = .returned (.bool b) := by rw [h]

set_option maxHeartbeats 1000000 in
theorem isName (s : ByteArray) (ds : List UInt8) (n : Nat) (w : World) (b1 : 6 < s.size) (b2 : s.size ≤ 15)
    (p0 : ((s[0]'(by omega)).toNat : Int) = 99) (p1 : ((s[1]'(by omega)).toNat : Int) = 97) (p2 : ((s[2]'(by omega)).toNat : Int) = 99)
    (p3 : ((s[3]'(by omega)).toNat : Int) = 104) (p4 : ((s[4]'(by omega)).toNat : Int) = 101) (p5 : ((s[5]'(by omega)).toNat : Int) = 45)
    (hne : (49 : Int) ≤ ((s[6]'(by omega)).toNat : Int))
    (Hsz : Hid (s.size = 6 + ds.length))
    (Hd : Hid (∀ c ∈ ds, 48 ≤ c.toNat ∧ c.toNat ≤ 57))
    (Hs : Hid (∀ (j : Nat) (h : j < ds.length) (h' : 6 + j < s.size), s[6 + j]'h' = ds[j]))
    (Hv : Hid (Plain.val ds = n)) :
    Calls Tryd.prog 5 #[.string s, .int .i64 n] w fun e w' => e = .returned (.bool true) ∧ ∃ k, w' = w.drewN k := by
  have e6 : ((((s[6]'(by omega)).toNat : Nat) : Int) == 48) = false := beq_eq_false_iff_ne.2 (by omega)
  go_enter Tryd.func5, Tryd.ntmps5
  go_wp2
  go_loopw [5] (fun i wr => ∃ k : Nat, k ≤ 6 ∧ i = .int .i64 k ∧ ∃ q, wr = w.drewN q) (fun i _ => 6 - (intOf i).toNat)
  case atStart => exact ⟨0, Nat.zero_le _, rfl, 0, rfl⟩
  case round =>
    obtain ⟨k, hk, rfl, q, rfl⟩ := hrel
    by_cases hlt : k < 6
    · have hk6 : k = 0 ∨ k = 1 ∨ k = 2 ∨ k = 3 ∨ k = 4 ∨ k = 5 := by omega
      rcases hk6 with rfl | rfl | rfl | rfl | rfl | rfl
      all_goals
        go_wp2
        go_quiet (fail)
        go_wp2
        go_roundw
        case rel => first | exact ⟨1, by decide, rfl, _, rfl⟩ | exact ⟨2, by decide, rfl, _, rfl⟩ | exact ⟨3, by decide, rfl, _, rfl⟩ | exact ⟨4, by decide, rfl, _, rfl⟩ | exact ⟨5, by decide, rfl, _, rfl⟩ | exact ⟨6, by decide, rfl, _, rfl⟩
        case measure => simp [intOf]
    · have ek : decide ((k : Int) < 6) = false := by simp; omega
      go_wp2
      go_loopw [6, 7] (fun v j wr => ∃ m : Nat, 6 + m ≤ s.size ∧ j = .int .i64 ((6 + m : Nat) : Int) ∧ v = .int .i64 (Plain.val (ds.take m)) ∧ ∃ q, wr = w.drewN q) (fun _ j _ => s.size - (intOf j).toNat)
      case atStart => exact ⟨0, by omega, rfl, rfl, _, rfl⟩
      case round =>
        obtain ⟨m, hm, rfl, rfl, q2, rfl⟩ := hrel
        have hsz := Hsz.out
        have hv9 := Plain.val_take_le ds Hd.out m (by omega)
        by_cases hlt : 6 + m < s.size
        · have hj := Hs.out m (by omega) hlt
          have hdg := Hd.out (ds[m]'(by omega)) (List.getElem_mem _)
          have g1 : (48 : Int) ≤ ((s[6 + m]'hlt).toNat : Int) := by rw [hj]; omega
          have g2 : ((s[6 + m]'hlt).toNat : Int) ≤ 57 := by rw [hj]; omega
          have HS : Hid (((Plain.val (ds.take (m + 1)) : Nat) : Int) = (Plain.val (ds.take m) : Int) * 10 + (((s[6 + m]'hlt).toNat : Int) - 48)) := by
            show _ = _
            rw [List.take_succ_eq_append_getElem (by omega), Plain.val_snoc, ← hj]
            have : (48 : Nat) ≤ (s[6 + m]'hlt).toNat := by omega
            omega
          clear hsz hj hdg
          go_wp2
          go_roundw
          case rel => exact ⟨m + 1, by omega, by go_num, by rw [HS.out], _, rfl⟩
          case measure => simp [intOf]; omega
        · have hm2 : Hid (m = ds.length) := (by omega : m = ds.length)
          clear hsz
          go_wp2
          go_ret
          refine ⟨ret_bool ?_, _, rfl⟩
          rw [hm2.out, List.take_length, Hv.out]
          simp
end Go.Proofs.Qxb6621643aDoor
