/-
  Seat b6621692a: the walk of zzBytes (function 4): it returns, writes nothing, and says true only of a list of at most 2^20 names.
-/
import Derived.Test.Qxb6621692aRows
import Derived.WalkKit
import Derived.WalkSpells
import Derived.WalkLawsBesides
namespace Go.Proofs.Qxb6621692a
open Go.RowKit

theorem bytes_none (a : Option Addr) (c : Nat) (k : Int) (w : World) :
    Calls Try.prog 4 #[.slice a 0 c, .int .i64 k] w fun e w' => e = .returned (.bool true) ∧ w' = w := by
  go_enter Try.func4, Try.ntmps4
  go_wp2
  refine wp_loop_rounds 1 ?_
  rw [rounds_succ]
  go_wp2
  go_ret
  exact ⟨rfl, rfl⟩

/-- How zzBytes ends. -/
def Ends (n : Nat) (w : World) (e : Ending) (w' : World) : Prop := ∃ r, e = .returned (.bool r) ∧ w' = w ∧ (r = true → n ≤ 1048576)

set_option maxHeartbeats 1000000 in
theorem bytes_some (b off n c : Nat) (ss : List ByteArray) (k : Int) (w : World) (hm : n ≤ maxLen) (hsm : ∀ j, (ss.getD j ByteArray.empty).size ≤ maxLen)
    (Hc : Hid (∀ j, j < n → w.cell? ⟨b, off + j, none⟩ = some (.string (ss.getD j ByteArray.empty)))) :
    Calls Try.prog 4 #[.slice (some ⟨b, off, none⟩) n c, .int .i64 k] w fun e w' => Ends n w e w' := by
  unfold maxLen at hm hsm
  by_cases hn : n ≤ 1048576
  · go_enter Try.func4, Try.ntmps4
    go_wp2
    go_loop [5, 6] (fun v i => ∃ (j : Nat) (m : Int), j ≤ n ∧ i = .int .i64 j ∧ v = .int .i64 m ∧ 0 ≤ m ∧ m ≤ 1048576) (fun _ i => n - (intOf i).toNat)
    case atStart => exact ⟨0, n, Nat.zero_le _, rfl, rfl, by omega, by omega⟩
    case round =>
      obtain ⟨j, m, hj, rfl, rfl, h0, h1⟩ := hrel
      by_cases hlt : j < n
      · have hcell := Hc.out j hlt
        have hz := hsm j
        obtain ⟨s, hs⟩ : ∃ s, s = ss.getD j ByteArray.empty := ⟨_, rfl⟩
        rw [← hs] at hcell hz
        clear hs hsm
        by_cases hbig : s.size ≤ 1048576
        · by_cases hsum : m + s.size ≤ 1048576
          · go_wp2
            go_round
            case rel => exact ⟨j + 1, m + s.size, by omega, by go_num, rfl, by omega, by omega⟩
            case measure => simp [intOf]; omega
          · go_wp2
            go_ret
            exact ⟨false, rfl, rfl, by simp⟩
        · go_wp2
          go_ret
          exact ⟨false, rfl, rfl, by simp⟩
      · go_wp2
        go_ret
        exact ⟨true, rfl, rfl, fun _ => hn⟩
  · go_enter Try.func4, Try.ntmps4
    go_wp2
    go_ret
    exact ⟨false, rfl, rfl, by simp⟩
end Go.Proofs.Qxb6621692a
