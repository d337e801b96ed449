/-
  Seat b6619397a: the walks of isLock (6), Kind.locking (12), position (13).
-/
import Derived.Test.Qxb6619397aRows
import Derived.Test.Qxb6619397aPlain
import Derived.WalkKit
import Derived.WalkSpells
import Derived.WalkLawsBesides
namespace Go.Proofs.Qxb6619397a
open Go.RowKit

theorem ret_bool {a b : Bool} (h : a = b) : Ending.returned (.bool a) = .returned (.bool b) := by rw [h]

theorem isLock (c : Int) (w : World) : Calls Try.prog 6 #[.int .u8 c] w fun e w' => e = .returned (.bool (Plain.lock c)) ∧ w' = w := by
  have H : Hid (Plain.lock c = (c == 5 || c == 6 || c == 7)) := rfl
  cases h5 : (c == 5) with
  | true =>
    rw [h5] at H
    go_enter Try.func6, Try.ntmps6
    go_wp2
    go_ret
    exact ⟨ret_bool (by rw [H.out]; simp), rfl⟩
  | false =>
  cases h6 : (c == 6) with
  | true =>
    rw [h5, h6] at H
    go_enter Try.func6, Try.ntmps6
    go_wp2
    go_ret
    exact ⟨ret_bool (by rw [H.out]; simp), rfl⟩
  | false =>
    rw [h5, h6] at H
    go_enter Try.func6, Try.ntmps6
    go_wp2
    go_ret
    exact ⟨ret_bool (by rw [H.out]; simp), rfl⟩

theorem locking (c : Int) (w : World) : Calls Try.prog 12 #[.int .u8 c] w fun e w' => e = .returned (.bool (Plain.lock c)) ∧ w' = w := by
  have H : Hid (Plain.lock c = (c == 5 || c == 6 || c == 7)) := rfl
  cases h5 : (c == 5) with
  | true =>
    rw [h5] at H
    go_enter Try.func12, Try.ntmps12
    go_wp2
    go_ret
    exact ⟨ret_bool (by rw [H.out]; simp), rfl⟩
  | false =>
  cases h6 : (c == 6) with
  | true =>
    rw [h5, h6] at H
    go_enter Try.func12, Try.ntmps12
    go_wp2
    go_ret
    exact ⟨ret_bool (by rw [H.out]; simp), rfl⟩
  | false =>
    rw [h5, h6] at H
    go_enter Try.func12, Try.ntmps12
    go_wp2
    go_ret
    exact ⟨ret_bool (by rw [H.out]; simp), rfl⟩

/-- A numbering of a whole schedule: an operation's position is its number. -/
theorem position (p : Nat) (k : Int) (w : World) (h5 : w.cell? ⟨p, 5, none⟩ = some (.slice none 0 0)) :
    Calls Try.prog 13 #[.pointer (some ⟨p, 0, none⟩), .int .i64 k] w fun e w' => e = .returned (.int .i64 k) ∧ w' = w := by
  have heq := fun wx a n c => Lib.run_eql_slice_nil (P := Try.prog) wx 24 3 a n c 0 0 Try.underlying24
  go_enter Try.func13, Try.ntmps13
  go_wp2
  go_ret
  exact ⟨rfl, rfl⟩
end Go.Proofs.Qxb6619397a
