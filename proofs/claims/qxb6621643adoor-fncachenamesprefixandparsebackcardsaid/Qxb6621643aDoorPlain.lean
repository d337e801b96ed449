/-
  Seat b6621643aD: THE PLAIN LAW: what isCacheName reads back off a decimal numeral. No Go in it.
-/
import Derived.Lib.ItoaNum
import Derived.Lib.ItoaMem
namespace Go.Proofs.Qxb6621643aDoor.Plain
open Go.Lib

/-- The value that a row of digits writes, read from the left. -/
def val (l : List UInt8) : Nat := l.foldl (fun v c => v * 10 + (c.toNat - 48)) 0

theorem val_snoc (l : List UInt8) (c : UInt8) : val (l ++ [c]) = val l * 10 + (c.toNat - 48) := by
  simp [val, List.foldl_append]

theorem toNat_dig {d : Nat} (h : d < 10) : (UInt8.ofNat (48 + d)).toNat = 48 + d := by
  simp [UInt8.toNat_ofNat']; omega

theorem val_dec (u : Nat) : val (decDigits u) = u := by
  induction u using Nat.strongRecOn with
  | _ u ih =>
    by_cases h : u < 10
    · rw [decDigits_one h]
      simp only [val, List.foldl_cons, List.foldl_nil, toNat_dig h]; omega
    · rw [decDigits, dif_neg h, val_snoc, ih (u / 10) (by omega), toNat_dig (by omega)]
      omega

theorem dig_dec (u : Nat) : ∀ c ∈ decDigits u, 48 ≤ c.toNat ∧ c.toNat ≤ 57 := by
  induction u using Nat.strongRecOn with
  | _ u ih =>
    by_cases h : u < 10
    · rw [decDigits_one h]
      intro c hc
      simp only [List.mem_singleton] at hc
      subst hc
      rw [toNat_dig h]; omega
    · rw [decDigits, dif_neg h]
      intro c hc
      rcases List.mem_append.1 hc with hc | hc
      · exact ih (u / 10) (by omega) c hc
      · simp only [List.mem_singleton] at hc
        subst hc
        rw [toNat_dig (by omega)]; omega

theorem len_pos (u : Nat) : 1 ≤ (decDigits u).length := by rw [decDigits_length]; exact nDigits_pos u

theorem head_dec (u : Nat) (h1 : 1 ≤ u) (h : 0 < (decDigits u).length) : 49 ≤ ((decDigits u)[0]).toNat := by
  induction u using Nat.strongRecOn with
  | _ u ih =>
    by_cases hu : u < 10
    · have e : decDigits u = [UInt8.ofNat (48 + u)] := decDigits_one hu
      have : (decDigits u)[0] = UInt8.ofNat (48 + u) := by simp [e]
      rw [this, toNat_dig hu]; omega
    · have e : decDigits u = decDigits (u / 10) ++ [UInt8.ofNat (48 + u % 10)] := by rw [decDigits, dif_neg hu]
      have hp := len_pos (u / 10)
      have : (decDigits u)[0] = (decDigits (u / 10))[0] := by
        simp only [e]
        rw [List.getElem_append_left]
      rw [this]
      exact ih (u / 10) (by omega) (by omega) (by omega)

theorem nDigits_mono : ∀ (k u : Nat), u < 10 ^ (k + 1) → nDigits u ≤ k + 1
  | 0, u, h => by rw [nDigits_small (by simpa using h)]; exact Nat.le_refl _
  | k + 1, u, h => by
    by_cases hu : u < 10
    · rw [nDigits_small hu]; omega
    · rw [nDigits_big hu]
      have := nDigits_mono k (u / 10) (by rw [Nat.pow_succ] at h; omega)
      omega

theorem len_dec (u : Nat) (h : u ≤ 65537) : (decDigits u).length ≤ 9 := by
  rw [decDigits_length]
  have := nDigits_mono 8 u (by have : (10:Nat) ^ (8 + 1) = 1000000000 := by decide
                               omega)
  omega

/-- What stands after k digits stays small. -/
theorem val_take_lt (l : List UInt8) (hd : ∀ c ∈ l, 48 ≤ c.toNat ∧ c.toNat ≤ 57) : ∀ k, val (l.take k) < 10 ^ k := by
  intro k
  induction k with
  | zero => simp [val]
  | succ k ih =>
    by_cases hk : k < l.length
    · rw [List.take_succ_eq_append_getElem hk, val_snoc, Nat.pow_succ]
      have := hd l[k] (List.getElem_mem hk)
      omega
    · have e : l.take (k + 1) = l.take k := by
        rw [List.take_of_length_le (by omega), List.take_of_length_le (by omega)]
      rw [e, Nat.pow_succ]; omega

theorem val_take_le (l : List UInt8) (hd : ∀ c ∈ l, 48 ≤ c.toNat ∧ c.toNat ≤ 57) (k : Nat) (hk : k ≤ 9) : val (l.take k) < 1000000000 := by
  have h1 := val_take_lt l hd k
  have h2 : (10 : Nat) ^ k ≤ 10 ^ 9 := Nat.pow_le_pow_right (by omega) hk
  have h3 : (10 : Nat) ^ 9 = 1000000000 := by decide
  omega

end Go.Proofs.Qxb6621643aDoor.Plain
