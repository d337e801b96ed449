/-
  Seat b6619397a: THE PLAIN FUNCTIONS of withoutLocks: which operations stay, which transactions are used, how they are numbered anew. No Go in it.
-/
namespace Go.Proofs.Qxb6619397a.Plain

/-- A lock operation's kind. -/
def lock (k : Int) : Bool := k == 5 || k == 6 || k == 7
/-- Of the first k operations those that stay. -/
def kp (ks : List Int) (k : Nat) : List Nat := (List.range k).filter fun q => !lock (ks.getD q 0)
/-- Does one of the first k operations that stay name transaction t? -/
def used (ks xs : List Int) (k t : Nat) : Bool := (kp ks k).any fun q => xs.getD q 0 == (t : Int)
/-- Of the first k transactions those that are used. -/
def us (ks xs : List Int) (n k : Nat) : List Nat := (List.range k).filter fun t => used ks xs n t
/-- The new number of transaction t, plus one. -/
def rk (ks xs : List Int) (n t : Nat) : Nat := (us ks xs n (t + 1)).length

theorem kp_stay (ks : List Int) (k : Nat) (h : lock (ks.getD k 0) = false) : kp ks (k + 1) = kp ks k ++ [k] := by
  simp only [kp, List.range_succ, List.filter_append]
  rw [List.filter_cons, h]
  simp
theorem kp_lock (ks : List Int) (k : Nat) (h : lock (ks.getD k 0) = true) : kp ks (k + 1) = kp ks k := by
  simp only [kp, List.range_succ, List.filter_append]
  rw [List.filter_cons, h]
  simp
theorem kp_len_le (ks : List Int) (k : Nat) : (kp ks k).length ≤ k := by
  have := List.length_filter_le (fun q => !lock (ks.getD q 0)) (List.range k)
  rw [List.length_range] at this
  exact this
theorem kp_mono (ks : List Int) (k n : Nat) (h : k ≤ n) : (kp ks k).length ≤ (kp ks n).length := by
  induction n with
  | zero => have : k = 0 := by omega
            subst this; exact Nat.le_refl _
  | succ n ih =>
    by_cases e : k = n + 1
    · subst e; exact Nat.le_refl _
    · have := ih (by omega)
      cases hl : lock (ks.getD n 0) with
      | true => rw [kp_lock ks n hl]; exact this
      | false => rw [kp_stay ks n hl, List.length_append]; omega
theorem kp_mem {ks : List Int} {k q : Nat} : q ∈ kp ks k ↔ q < k ∧ lock (ks.getD q 0) = false := by
  simp [kp]
theorem kp_all (ks : List Int) (n : Nat) (h : (kp ks n).length = n) : kp ks n = List.range n := by
  have hs : (kp ks n).Sublist (List.range n) := List.filter_sublist
  exact hs.eq_of_length (by rw [h, List.length_range])
theorem kp_room (ks : List Int) (k n : Nat) (h : k < n) (hl : lock (ks.getD k 0) = false) : (kp ks k).length + 1 ≤ (kp ks n).length := by
  have h1 := kp_mono ks (k + 1) n h
  rw [kp_stay ks k hl, List.length_append] at h1
  simpa using h1

theorem used_stay (ks xs : List Int) (k t : Nat) (h : lock (ks.getD k 0) = false) : used ks xs (k + 1) t = (used ks xs k t || (xs.getD k 0 == (t : Int))) := by
  simp [used, kp_stay ks k h, List.any_append]
theorem used_lock (ks xs : List Int) (k t : Nat) (h : lock (ks.getD k 0) = true) : used ks xs (k + 1) t = used ks xs k t := by
  simp [used, kp_lock ks k h]
theorem used_of {ks xs : List Int} {n q t : Nat} (hq : q ∈ kp ks n) (hx : xs.getD q 0 = (t : Int)) : used ks xs n t = true := by
  simp only [used, List.any_eq_true]
  exact ⟨q, hq, by rw [hx]; simp⟩

theorem us_yes (ks xs : List Int) (n k : Nat) (h : used ks xs n k = true) : us ks xs n (k + 1) = us ks xs n k ++ [k] := by
  simp only [us, List.range_succ, List.filter_append]
  rw [List.filter_cons, if_pos h]
  simp
theorem us_no (ks xs : List Int) (n k : Nat) (h : used ks xs n k = false) : us ks xs n (k + 1) = us ks xs n k := by
  simp only [us, List.range_succ, List.filter_append]
  rw [List.filter_cons, h]
  simp
theorem us_len_le (ks xs : List Int) (n k : Nat) : (us ks xs n k).length ≤ k := by
  have := List.length_filter_le (fun t => used ks xs n t) (List.range k)
  rw [List.length_range] at this
  exact this
theorem rk_yes (ks xs : List Int) (n k : Nat) (h : used ks xs n k = true) : rk ks xs n k = (us ks xs n k).length + 1 := by
  simp [rk, us_yes ks xs n k h]
theorem rk_le (ks xs : List Int) (n t : Nat) : rk ks xs n t ≤ t + 1 := us_len_le _ _ _ _

/-- The table of new numbers as the second loop leaves it. -/
def f2 (ks xs : List Int) (k t : Nat) : Int := if used ks xs k t then 1 else 0
/-- .. as the third loop leaves it when k transactions are done. -/
def f3 (ks xs : List Int) (n k t : Nat) : Int := if used ks xs n t then (if t < k then (rk ks xs n t : Int) else 1) else 0

theorem f3_zero (ks xs : List Int) (n t : Nat) : f3 ks xs n 0 t = f2 ks xs n t := by simp [f3, f2]
theorem f3_at (ks xs : List Int) (n k : Nat) : f3 ks xs n k k = if used ks xs n k then 1 else 0 := by simp [f3]

end Go.Proofs.Qxb6619397a.Plain
