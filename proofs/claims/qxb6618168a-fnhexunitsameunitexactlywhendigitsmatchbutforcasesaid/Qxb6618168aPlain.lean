/-
  Seat b6618168a: THE PLAIN LAW: hexadecimal digits, letter case, and the unit that four digits write. No Go in it.
-/
namespace Go.Proofs.Qxb6618168a.Plain

/-- The value of a hexadecimal digit of either case, or -1. -/
def hv (c : Int) : Int := if 48 ≤ c ∧ c ≤ 57 then c - 48 else if 97 ≤ c ∧ c ≤ 102 then c - 87 else if 65 ≤ c ∧ c ≤ 70 then c - 55 else -1
/-- The letter in lower case. -/
def lo (c : Int) : Int := if 65 ≤ c ∧ c ≤ 90 then c + 32 else c
/-- The k-th of the sixteen digits. -/
def dig (k : Nat) : Int := if k < 10 then 48 + k else 87 + k

theorem hv_le (c : Int) : -1 ≤ hv c ∧ hv c ≤ 15 := by unfold hv; split <;> (try split) <;> (try split) <;> omega

/-- The table's place of a digit, upper case turned to lower, is its value. -/
theorem hv_of_dig (c : Int) (k : Nat) (hk : k < 16) (h : dig k = if 65 ≤ c ∧ c ≤ 70 then c + 32 else c) : hv c = k := by
  unfold dig at h; unfold hv
  split at h <;> split at h <;> (split <;> (try split) <;> (try split) <;> omega)

theorem hv_none (c : Int) (h : ∀ k : Nat, k < 16 → dig k ≠ if 65 ≤ c ∧ c ≤ 70 then c + 32 else c) : hv c = -1 := by
  unfold hv
  split
  · rename_i h1
    have := h (c - 48).toNat (by omega)
    unfold dig at this
    rw [if_pos (by omega), if_neg (by omega)] at this
    omega
  · split
    · rename_i h0 h1
      have := h (c - 87).toNat (by omega)
      unfold dig at this
      rw [if_neg (by omega), if_neg (by omega)] at this
      omega
    · split
      · rename_i h2
        have := h (c - 55).toNat (by omega)
        unfold dig at this
        rw [if_neg (by omega), if_pos (by omega)] at this
        omega
      · rfl

/-- Two digits have one value exactly when they agree but for case. -/
theorem hv_lo (c d : Int) (hc : 0 ≤ hv c) (hd : 0 ≤ hv d) : hv c = hv d ↔ lo c = lo d := by
  unfold hv lo at *
  split at hc <;> split at hd <;> (try split at hc) <;> (try split at hd) <;> (try split at hc) <;> (try split at hd) <;> (try omega) <;>
    (constructor <;> intro h <;> (repeat (split at h)) <;> (repeat split) <;> omega)

end Go.Proofs.Qxb6618168a.Plain
