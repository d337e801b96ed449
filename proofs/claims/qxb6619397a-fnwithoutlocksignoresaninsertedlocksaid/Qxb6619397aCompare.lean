/-
  Seat b6619397a: THE PLAIN LAW: a lock operation put in at place p changes nothing of what withoutLocks leaves but the positions from p on. No Go in it.
-/
import Derived.Test.Qxb6619397aPlain
namespace Go.Proofs.Qxb6619397a.Plain

/-- The list with v put in at place p. -/
def ins (l : List Int) (n p : Nat) (v : Int) : List Int := (List.range (n + 1)).map fun j => if j < p then l.getD j 0 else if j = p then v else l.getD (j - 1) 0
/-- Where operation q lies then. -/
def sh (p q : Nat) : Nat := if q < p then q else q + 1

theorem ins_at (l : List Int) (n p : Nat) (v : Int) (j : Nat) (h : j < n + 1) : (ins l n p v).getD j 0 = if j < p then l.getD j 0 else if j = p then v else l.getD (j - 1) 0 := by
  simp only [ins, List.getD, List.getElem?_map, List.getElem?_range h, Option.map_some, Option.getD_some]
theorem ins_sh (l : List Int) (n p : Nat) (v : Int) (q : Nat) (h : q < n) : (ins l n p v).getD (sh p q) 0 = l.getD q 0 := by
  unfold sh
  by_cases hq : q < p
  · rw [if_pos hq, ins_at l n p v q (by omega), if_pos hq]
  · rw [if_neg hq, ins_at l n p v (q + 1) (by omega), if_neg (by omega), if_neg (by omega), Nat.add_sub_cancel]

theorem kp_ins_low (ks : List Int) (n p : Nat) (v : Int) (hp : p ≤ n) (k : Nat) (hk : k ≤ p) : kp (ins ks n p v) k = kp ks k := by
  unfold kp
  apply List.filter_congr
  intro q hq
  have hq' := List.mem_range.1 hq
  rw [ins_at ks n p v q (by omega), if_pos (by omega)]

theorem kp_ins (ks : List Int) (n p : Nat) (v : Int) (hp : p ≤ n) (hv : lock v = true) (k : Nat) (hk : p ≤ k) (hkn : k ≤ n) : kp (ins ks n p v) (k + 1) = (kp ks k).map (sh p) := by
  induction k with
  | zero =>
    have hp0 : p = 0 := by omega
    subst hp0
    have hl : lock ((ins ks n 0 v).getD 0 0) = true := by rw [ins_at ks n 0 v 0 (by omega), if_neg (by omega), if_pos rfl]; exact hv
    rw [kp_lock _ 0 hl]
    simp [kp]
  | succ k ih =>
    by_cases he : p = k + 1
    · subst he
      have hl : lock ((ins ks n (k + 1) v).getD (k + 1) 0) = true := by rw [ins_at ks n (k + 1) v (k + 1) (by omega), if_neg (by omega), if_pos rfl]; exact hv
      rw [kp_lock _ (k + 1) hl, kp_ins_low ks n (k + 1) v hp (k + 1) (Nat.le_refl _)]
      have : ∀ q ∈ kp ks (k + 1), sh (k + 1) q = q := by
        intro q hq
        have := (kp_mem.1 hq).1
        unfold sh; rw [if_pos (by omega)]
      rw [List.map_congr_left this]
      simp
    · have ih' := ih (by omega) (by omega)
      have e : (ins ks n p v).getD (k + 1) 0 = ks.getD k 0 := by
        rw [ins_at ks n p v (k + 1) (by omega), if_neg (by omega), if_neg (by omega), Nat.add_sub_cancel]
      cases hl : lock (ks.getD k 0) with
      | true => rw [kp_lock _ (k + 1) (by rw [e]; exact hl), kp_lock ks k hl, ih']
      | false =>
        rw [kp_stay _ (k + 1) (by rw [e]; exact hl), kp_stay ks k hl, ih', List.map_append]
        have : sh p k = k + 1 := by unfold sh; rw [if_neg (by omega)]
        simp [this]

theorem kp_ins_all (ks : List Int) (n p : Nat) (v : Int) (hp : p ≤ n) (hv : lock v = true) : kp (ins ks n p v) (n + 1) = (kp ks n).map (sh p) := kp_ins ks n p v hp hv n hp (Nat.le_refl _)

theorem used_ins (ks xs : List Int) (n p : Nat) (v vx : Int) (hp : p ≤ n) (hv : lock v = true) (t : Nat) : used (ins ks n p v) (ins xs n p vx) (n + 1) t = used ks xs n t := by
  unfold used
  rw [kp_ins_all ks n p v hp hv, List.any_map]
  have : ∀ q ∈ kp ks n, ((fun q => (ins xs n p vx).getD q 0 == (t : Int)) ∘ sh p) q = (xs.getD q 0 == (t : Int)) := by
    intro q hq
    simp only [Function.comp]
    rw [ins_sh xs n p vx q (kp_mem.1 hq).1]
  rw [Bool.eq_iff_iff, List.any_eq_true, List.any_eq_true]
  constructor
  · rintro ⟨q, hq, h⟩; exact ⟨q, hq, by rw [← this q hq]; exact h⟩
  · rintro ⟨q, hq, h⟩; exact ⟨q, hq, by rw [this q hq]; exact h⟩

theorem us_ins (ks xs : List Int) (n p : Nat) (v vx : Int) (hp : p ≤ n) (hv : lock v = true) (k : Nat) : us (ins ks n p v) (ins xs n p vx) (n + 1) k = us ks xs n k := by
  unfold us
  apply List.filter_congr
  intro t _
  rw [used_ins ks xs n p v vx hp hv]

theorem rk_ins (ks xs : List Int) (n p : Nat) (v vx : Int) (hp : p ≤ n) (hv : lock v = true) (t : Nat) : rk (ins ks n p v) (ins xs n p vx) (n + 1) t = rk ks xs n t := by
  unfold rk
  rw [us_ins ks xs n p v vx hp hv]

theorem len_ins (ks : List Int) (n p : Nat) (v : Int) (hp : p ≤ n) (hv : lock v = true) : (kp (ins ks n p v) (n + 1)).length = (kp ks n).length := by
  rw [kp_ins_all ks n p v hp hv, List.length_map]

theorem kq_ins (ks : List Int) (n p : Nat) (v : Int) (hp : p ≤ n) (hv : lock v = true) (j : Nat) (hj : j < (kp ks n).length) : (kp (ins ks n p v) (n + 1)).getD j 0 = sh p ((kp ks n).getD j 0) := by
  rw [kp_ins_all ks n p v hp hv]
  simp [List.getD, hj]

theorem kq_lt (ks : List Int) (n j : Nat) (hj : j < (kp ks n).length) : (kp ks n).getD j 0 < n ∧ lock (ks.getD ((kp ks n).getD j 0) 0) = false := by
  have : (kp ks n).getD j 0 ∈ kp ks n := by rw [List.getD, List.getElem?_eq_getElem hj]; exact List.getElem_mem _
  exact kp_mem.1 this

/-- The i-th that stays is q where q stays and i stay before it. -/
theorem kq_of (ks : List Int) (n q : Nat) (hq : q < n) (hl : lock (ks.getD q 0) = false) : (kp ks n).getD (kp ks q).length 0 = q := by
  have key : ∀ m, q + 1 + m ≤ n → (kp ks (q + 1 + m)).getD (kp ks q).length 0 = q := by
    intro m
    induction m with
    | zero => intro _; rw [Nat.add_zero, kp_stay ks q hl]; simp [List.getD]
    | succ m ih =>
      intro hm
      have h1 := ih (by omega)
      have hlen := kp_mono ks (q + 1) (q + 1 + m) (by omega)
      rw [kp_stay ks q hl, List.length_append] at hlen
      have hlt : (kp ks q).length < (kp ks (q + 1 + m)).length := by simp at hlen; omega
      have e : q + 1 + (m + 1) = (q + 1 + m) + 1 := by omega
      rw [e]
      cases hl2 : lock (ks.getD (q + 1 + m) 0) with
      | true => rw [kp_lock ks _ hl2]; exact h1
      | false =>
        rw [kp_stay ks _ hl2]
        simp only [List.getD] at *
        rw [List.getElem?_append_left hlt]
        exact h1
  have := key (n - (q + 1)) (by omega)
  rw [show q + 1 + (n - (q + 1)) = n by omega] at this
  exact this

/-- With no lock and every transaction named the numbers are as they were. -/
theorem used_all (ks xs : List Int) (n nt : Nat) (hn : (kp ks n).length = n) (h : ∀ t, t < nt → ∃ q, q < n ∧ xs.getD q 0 = (t : Int)) (t : Nat) (ht : t < nt) : used ks xs n t = true := by
  obtain ⟨q, hq, hx⟩ := h t ht
  exact used_of (by rw [kp_all ks n hn]; exact List.mem_range.2 hq) hx

theorem us_all (ks xs : List Int) (n nt k : Nat) (h : ∀ t, t < nt → used ks xs n t = true) (hk : k ≤ nt) : us ks xs n k = List.range k := by
  unfold us
  apply List.filter_eq_self.2
  intro t ht
  exact h t (by have := List.mem_range.1 ht; omega)

theorem rk_all (ks xs : List Int) (n nt t : Nat) (h : ∀ t, t < nt → used ks xs n t = true) (ht : t < nt) : rk ks xs n t = t + 1 := by
  unfold rk
  rw [us_all ks xs n nt (t + 1) h (by omega), List.length_range]

end Go.Proofs.Qxb6619397a.Plain
