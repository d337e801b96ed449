/-
  Seat b6618168a: the walks of hexDigitValue (function 14), lowerASCII (function 8).
-/
import Derived.Test.Qxb6618168aRows
import Derived.Test.Qxb6618168aPlain
import Derived.WalkKit
import Derived.WalkSpells
import Derived.WalkLawsBesides
namespace Go.Proofs.Qxb6618168a
open Go.RowKit

theorem ret_int {k : IntKind} {a b : Int} (h : a = b) : Ending.returned (.int k a) = .returned (.int k b) := by rw [h]

theorem lower (c : Int) (h0 : 0 ≤ c) (h1 : c ≤ 255) (w : World) :
    Calls Try.prog 8 #[.int .u8 c] w fun e w' => e = .returned (.int .u8 (Plain.lo c)) ∧ w' = w := by
  have H : Hid (Plain.lo c = if 65 ≤ c ∧ c ≤ 90 then c + 32 else c) := rfl
  by_cases h65 : 65 ≤ c
  · by_cases h90 : c ≤ 90
    · go_enter Try.func8, Try.ntmps8
      go_wp2
      go_ret
      exact ⟨ret_int (by rw [H.out, if_pos ⟨h65, h90⟩]; omega), rfl⟩
    · go_enter Try.func8, Try.ntmps8
      go_wp2
      go_ret
      exact ⟨ret_int (by rw [H.out, if_neg (by omega)]), rfl⟩
  · go_enter Try.func8, Try.ntmps8
    go_wp2
    go_ret
    exact ⟨ret_int (by rw [H.out, if_neg (by omega)]), rfl⟩

theorem table (k : Nat) (hk : k < 16) (h : k < ({ data := #[48, 49, 50, 51, 52, 53, 54, 55, 56, 57, 97, 98, 99, 100, 101, 102] } : ByteArray).size) :
    (((({ data := #[48, 49, 50, 51, 52, 53, 54, 55, 56, 57, 97, 98, 99, 100, 101, 102] } : ByteArray)[k]'h).toNat : Nat) : Int) = Plain.dig k := by
  have key : ∀ j : Fin 16, (((({ data := #[48, 49, 50, 51, 52, 53, 54, 55, 56, 57, 97, 98, 99, 100, 101, 102] } : ByteArray)[j.1]'j.2).toNat : Nat) : Int) = Plain.dig j.1 := by decide
  exact key ⟨k, hk⟩

set_option maxHeartbeats 400000 in
theorem digit (c : Int) (h0 : 0 ≤ c) (h1 : c ≤ 255) (w : World) :
    Calls Try.prog 14 #[.int .u8 c] w fun e w' => e = .returned (.int .i64 (Plain.hv c)) ∧ w' = w := by
  by_cases hup : 65 ≤ c ∧ c ≤ 70
  · obtain ⟨h65, h70⟩ := hup
    have e1 : decide ((65 : Int) ≤ c) = true := by simp; omega
    have e2 : decide (c ≤ 70) = true := by simp; omega
    have HF : Hid (c - 65 + 97 = if 65 ≤ c ∧ c ≤ 70 then c + 32 else c) := by show _ = _; rw [if_pos ⟨h65, h70⟩]; omega
    go_enter Try.func14, Try.ntmps14
    go_wp2
    go_loop [3] (fun i => ∃ k : Nat, k ≤ 16 ∧ i = .int .i64 k ∧ Hid (∀ j, j < k → Plain.dig j ≠ c - 65 + 97)) (fun i => 16 - (intOf i).toNat)
    case atStart => exact ⟨0, Nat.zero_le _, rfl, fun j hj => absurd hj (by omega)⟩
    case round =>
      obtain ⟨k, hk, rfl, HB⟩ := hrel
      by_cases hlt : k < 16
      · have hd := table k hlt (by exact hlt)
        by_cases he : Plain.dig k = c - 65 + 97
        · have HE := he
          have eb : (Plain.dig k == c - 65 + 97) = true := beq_iff_eq.2 he
          have HH : Hid (Plain.hv c = k) := Plain.hv_of_dig c k hlt (he.trans HF.out)
          clear he HE
          go_wp2
          go_ret
          exact ⟨ret_int HH.out.symm, rfl⟩
        · have eb : (Plain.dig k == c - 65 + 97) = false := beq_eq_false_iff_ne.2 he
          have HN : Hid (∀ j, j < k + 1 → Plain.dig j ≠ c - 65 + 97) := by
            intro j hj
            by_cases h : j = k
            · subst h; exact he
            · exact HB.out j (by omega)
          clear he
          go_wp2
          go_round
          case rel => exact ⟨k + 1, by omega, by go_num, HN⟩
          case measure => simp [intOf]; omega
      · have hk16 : k = 16 := by omega
        subst hk16
        have HH : Hid (Plain.hv c = -1) := Plain.hv_none c (fun j hj h => HB.out j hj (h.trans HF.out.symm))
        go_wp2
        go_ret
        exact ⟨ret_int HH.out.symm, rfl⟩
  · have HF : Hid (c = if 65 ≤ c ∧ c ≤ 70 then c + 32 else c) := by show _ = _; rw [if_neg hup]
    by_cases h65 : 65 ≤ c
    · have h70 : ¬ c ≤ 70 := fun h => hup ⟨h65, h⟩
      have e1 : decide ((65 : Int) ≤ c) = true := by simp; omega
      have e2 : decide (c ≤ 70) = false := by simp; omega
      clear hup
      go_enter Try.func14, Try.ntmps14
      go_wp2
      go_loop [3] (fun i => ∃ k : Nat, k ≤ 16 ∧ i = .int .i64 k ∧ Hid (∀ j, j < k → Plain.dig j ≠ c)) (fun i => 16 - (intOf i).toNat)
      case atStart => exact ⟨0, Nat.zero_le _, rfl, fun j hj => absurd hj (by omega)⟩
      case round =>
        obtain ⟨k, hk, rfl, HB⟩ := hrel
        by_cases hlt : k < 16
        · have hd := table k hlt (by exact hlt)
          by_cases he : Plain.dig k = c
          · have HE := he
            have eb : (Plain.dig k == c) = true := beq_iff_eq.2 he
            have HH : Hid (Plain.hv c = k) := Plain.hv_of_dig c k hlt (he.trans HF.out)
            clear he HE
            go_wp2
            go_ret
            exact ⟨ret_int HH.out.symm, rfl⟩
          · have eb : (Plain.dig k == c) = false := beq_eq_false_iff_ne.2 he
            have HN : Hid (∀ j, j < k + 1 → Plain.dig j ≠ c) := by
              intro j hj
              by_cases h : j = k
              · subst h; exact he
              · exact HB.out j (by omega)
            clear he
            go_wp2
            go_round
            case rel => exact ⟨k + 1, by omega, by go_num, HN⟩
            case measure => simp [intOf]; omega
        · have hk16 : k = 16 := by omega
          subst hk16
          have HH : Hid (Plain.hv c = -1) := Plain.hv_none c (fun j hj h => HB.out j hj (h.trans HF.out.symm))
          go_wp2
          go_ret
          exact ⟨ret_int HH.out.symm, rfl⟩
    · have e1 : decide ((65 : Int) ≤ c) = false := by simp; omega
      clear hup
      go_enter Try.func14, Try.ntmps14
      go_wp2
      go_loop [3] (fun i => ∃ k : Nat, k ≤ 16 ∧ i = .int .i64 k ∧ Hid (∀ j, j < k → Plain.dig j ≠ c)) (fun i => 16 - (intOf i).toNat)
      case atStart => exact ⟨0, Nat.zero_le _, rfl, fun j hj => absurd hj (by omega)⟩
      case round =>
        obtain ⟨k, hk, rfl, HB⟩ := hrel
        by_cases hlt : k < 16
        · have hd := table k hlt (by exact hlt)
          by_cases he : Plain.dig k = c
          · have HE := he
            have eb : (Plain.dig k == c) = true := beq_iff_eq.2 he
            have HH : Hid (Plain.hv c = k) := Plain.hv_of_dig c k hlt (he.trans HF.out)
            clear he HE
            go_wp2
            go_ret
            exact ⟨ret_int HH.out.symm, rfl⟩
          · have eb : (Plain.dig k == c) = false := beq_eq_false_iff_ne.2 he
            have HN : Hid (∀ j, j < k + 1 → Plain.dig j ≠ c) := by
              intro j hj
              by_cases h : j = k
              · subst h; exact he
              · exact HB.out j (by omega)
            clear he
            go_wp2
            go_round
            case rel => exact ⟨k + 1, by omega, by go_num, HN⟩
            case measure => simp [intOf]; omega
        · have hk16 : k = 16 := by omega
          subst hk16
          have HH : Hid (Plain.hv c = -1) := Plain.hv_none c (fun j hj h => HB.out j hj (h.trans HF.out.symm))
          go_wp2
          go_ret
          exact ⟨ret_int HH.out.symm, rfl⟩
end Go.Proofs.Qxb6618168a
