/-
  Seat b6621692a: the walk of zzNamedType (function 6).
-/
import Derived.Test.Qxb6621692aRows
import Derived.Test.Qxb6621692aPlain
import Derived.WalkKit
import Derived.WalkSpells
import Derived.WalkLawsBesides
namespace Go.Proofs.Qxb6621692a
open Go.RowKit

theorem ret_str {a b : ByteArray} (h : a = b) : Ending.returned (.string a) = .returned (.string b) := by rw [h]

set_option maxHeartbeats 1000000 in
theorem namedT (s : ByteArray) (w : World) (hs : s.size ≤ 1048576) :
    Calls Try.prog 6 #[.string s] w fun e w' => e = .returned (.string (Plain.nmd s)) ∧ w' = w := by
  cases h0 : (s.toList == [110, 117, 108, 108]) with
  | true =>
    go_enter Try.func6, Try.ntmps6
    go_wp2
    go_ret
    exact ⟨ret_str ((Plain.null_eq h0).trans (Plain.nmd_null h0).symm), rfl⟩
  | false =>
  cases h1 : (s.toList == [97, 114, 114, 97, 121]) with
  | true =>
    go_enter Try.func6, Try.ntmps6
    go_wp2
    go_ret
    exact ⟨ret_str (Plain.nmd_arr h0 h1).symm, rfl⟩
  | false =>
  cases h2 : (s.toList == [105, 110, 116, 101, 103, 101, 114]) with
  | true =>
    go_enter Try.func6, Try.ntmps6
    go_wp2
    go_ret
    exact ⟨ret_str (Plain.nmd_int h0 h1 h2).symm, rfl⟩
  | false =>
  cases h3 : (s.toList == [111, 98, 106, 101, 99, 116]) with
  | true =>
    go_enter Try.func6, Try.ntmps6
    go_wp2
    go_ret
    exact ⟨ret_str (Plain.nmd_obj h0 h1 h2 h3).symm, rfl⟩
  | false =>
    go_enter Try.func6, Try.ntmps6
    go_wp2
    go_ret
    exact ⟨ret_str (Plain.nmd_else h0 h1 h2 h3).symm, rfl⟩
end Go.Proofs.Qxb6621692a
