/-
  Seat b6619397a: the walk of zzBytes (10): it returns, and writes nothing.
-/
import Derived.Test.Qxb6619397aConv
namespace Go.Proofs.Qxb6619397a
open Go.RowKit

/-- It hands back one or the other; the world is as it was. -/
def EndsB (w : World) (e : Ending) (w' : World) : Prop := ∃ r, e = .returned (.bool r) ∧ w' = w

set_option maxHeartbeats 4000000 in
theorem bytes (a1 a2 a3 a4 : Option Addr) (n1 n2 n3 n4 c1 c2 c3 c4 : Nat) (i1 i2 i3 i4 i5 : Int) (ts : List ByteArray) (w : World) (h1 : n1 ≤ maxLen) (h2 : n2 ≤ maxLen) (h3 : n3 ≤ maxLen) (h4 : n4 ≤ maxLen)
    (hs : ∀ j, (ts.getD j ByteArray.empty).size ≤ maxLen) (H : Hid (Strs w a2 n2 ts)) :
    Calls Try.prog 10 #[.slice a1 n1 c1, .slice a2 n2 c2, .slice a3 n3 c3, .slice a4 n4 c4, .int .i64 i1, .int .i64 i2, .int .u8 i3, .int .i64 i4, .int .i64 i5] w fun e w' => EndsB w e w' := by
  unfold maxLen at h1 h2 h3 h4 hs
  by_cases b1 : n1 ≤ 1048576
  · by_cases b2 : n2 ≤ 1048576
    · by_cases b3 : n1 + n2 ≤ 1048576
      · go_enter Try.func10, Try.ntmps10
        go_wp2
        go_loop [19, 20] (fun v i => ∃ (j : Nat) (m : Int), j ≤ n2 ∧ i = .int .i64 j ∧ v = .int .i64 m ∧ 0 ≤ m ∧ m ≤ 1048576) (fun _ i => n2 - (intOf i).toNat)
        case atStart => exact ⟨0, n1 + n2, Nat.zero_le _, rfl, rfl, by omega, by omega⟩
        case round =>
          obtain ⟨j, m, hj, rfl, rfl, m0, m1⟩ := hrel
          by_cases hlt : j < n2
          · obtain ⟨g, off, rfl, hc⟩ := H.out (by omega)
            have ck := hc j hlt
            have hz := hs j
            generalize ts.getD j ByteArray.empty = s at *
            clear hc hs
            by_cases hbig : s.size ≤ 1048576
            · by_cases hsum : m + s.size ≤ 1048576
              · go_wp2
                go_round
                case rel => exact ⟨j + 1, m + s.size, by omega, by go_num, rfl, by omega, by omega⟩
                case measure => simp [intOf]; omega
              · go_wp2
                go_ret
                exact ⟨false, rfl, rfl⟩
            · go_wp2
              go_ret
              exact ⟨false, rfl, rfl⟩
          · by_cases b4 : n3 ≤ 1048576
            · by_cases b5 : m + n3 ≤ 1048576
              · by_cases b6 : n4 ≤ 1048576
                · by_cases b7 : m + n3 + n4 ≤ 1048576
                  · go_wp2
                    go_ret
                    exact ⟨true, rfl, rfl⟩
                  · go_wp2
                    go_ret
                    exact ⟨false, rfl, rfl⟩
                · go_wp2
                  go_ret
                  exact ⟨false, rfl, rfl⟩
              · go_wp2
                go_ret
                exact ⟨false, rfl, rfl⟩
            · go_wp2
              go_ret
              exact ⟨false, rfl, rfl⟩
      · go_enter Try.func10, Try.ntmps10
        go_wp2
        go_ret
        exact ⟨false, rfl, rfl⟩
    · go_enter Try.func10, Try.ntmps10
      go_wp2
      go_ret
      exact ⟨false, rfl, rfl⟩
  · go_enter Try.func10, Try.ntmps10
    go_wp2
    go_ret
    exact ⟨false, rfl, rfl⟩
end Go.Proofs.Qxb6619397a
