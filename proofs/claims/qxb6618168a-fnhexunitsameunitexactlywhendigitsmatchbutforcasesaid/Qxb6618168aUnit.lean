/-
  Seat b6618168a: the walks of hexUnit (function 13), ZZHexUnit (function 6), modelUnitEscape (function 7), zzBytes (function 5).
-/
import Derived.Test.Qxb6618168aDigit
import Derived.Laws.BitsLemmas
namespace Go.Proofs.Qxb6618168a
open Go.RowKit

/-- What the first k of the digits d write. -/
def U (d : Nat → Int) : Nat → Int
  | 0 => 0
  | k + 1 => U d k * 16 + Plain.hv (d k)

theorem U_bd (d : Nat → Int) (k : Nat) (h : ∀ j, j < k → 0 ≤ Plain.hv (d j)) (hk : k ≤ 4) : 0 ≤ U d k ∧ U d k ≤ 65535 := by
  have key : ∀ m, m ≤ k → 0 ≤ U d m ∧ U d m < 16 ^ m := by
    intro m
    induction m with
    | zero => intro _; simp [U]
    | succ m ih =>
      intro hm
      have h1 := ih (by omega)
      have h2 := h m (by omega)
      have h3 := (Plain.hv_le (d m)).2
      simp only [U]
      rw [Int.pow_succ]
      omega
  have h1 := key k (Nat.le_refl _)
  have h4 : k = 0 ∨ k = 1 ∨ k = 2 ∨ k = 3 ∨ k = 4 := by omega
  rcases h4 with rfl | rfl | rfl | rfl | rfl <;> simp at h1 <;> omega

/-- The four digits are digits. -/
def okD (d : Nat → Int) : Bool := decide (0 ≤ Plain.hv (d 0)) && decide (0 ≤ Plain.hv (d 1)) && decide (0 ≤ Plain.hv (d 2)) && decide (0 ≤ Plain.hv (d 3))
theorem okD_yes (d : Nat → Int) (h : ∀ j, j < 4 → 0 ≤ Plain.hv (d j)) : okD d = true := by
  simp [okD, h 0 (by omega), h 1 (by omega), h 2 (by omega), h 3 (by omega)]
theorem okD_no (d : Nat → Int) (j : Nat) (hj : j < 4) (h : Plain.hv (d j) < 0) : okD d = false := by
  have h4 : j = 0 ∨ j = 1 ∨ j = 2 ∨ j = 3 := by omega
  have e : decide (0 ≤ Plain.hv (d j)) = false := by simp; omega
  rcases h4 with rfl | rfl | rfl | rfl <;> simp [okD, e]
theorem okD_all {d : Nat → Int} (h : okD d = true) : ∀ j, j < 4 → 0 ≤ Plain.hv (d j) := by
  simp [okD] at h
  intro j hj
  have h4 : j = 0 ∨ j = 1 ∨ j = 2 ∨ j = 3 := by omega
  rcases h4 with rfl | rfl | rfl | rfl <;> omega

/-- What hexUnit hands back at the digits d. -/
def Res (d : Nat → Int) (w : World) (e : Ending) (w' : World) : Prop :=
  w' = w ∧ ((okD d = true ∧ e = .returned (.tuple #[.int .i32 (U d 4), .bool true])) ∨ (okD d = false ∧ e = .returned (.tuple #[.int .i32 0, .bool false])))

theorem step {d : Nat → Int} {k : Nat} {v x h : Int} (HV : Hid (v = U d k)) (HX : Hid (x = d k)) (b0 : 0 ≤ v) (b1 : v ≤ 65535) (hh : Plain.hv x = h) (h0 : 0 ≤ h) (h1 : h < 16) :
    Value.int .i32 (bits .or .i32 (v * 16) h) = Value.int .i32 (U d (k + 1)) := by
  rw [bits_join .i32 31 (by decide) wraps_i32 4 (v * 16) h (by omega) (by omega) (by omega) h0 (by omega) (by omega)]
  simp only [U]
  rw [← HV.out, ← HX.out, hh]

theorem more {d : Nat → Int} {k : Nat} {x : Int} (HB : Hid (∀ j, j < k → 0 ≤ Plain.hv (d j))) (HX : Hid (x = d k)) (h : 0 ≤ Plain.hv x) : Hid (∀ j, j < k + 1 → 0 ≤ Plain.hv (d j)) := by
  intro j hj
  by_cases e : j = k
  · subst e; rw [← HX.out]; exact h
  · exact HB.out j (by omega)

set_option maxHeartbeats 1000000 in
theorem hex_try (g off n c : Nat) (w : World) (d : Nat → Int) (hn : 6 ≤ n) (hnc : n ≤ c) (hn2 : n ≤ 1048576)
    (c0 : w.cell? ⟨g, off, none⟩ = some (.int .u8 92)) (c1 : w.cell? ⟨g, off + 1, none⟩ = some (.int .u8 117))
    (Hc : Hid (∀ k, k < 4 → w.cell? ⟨g, off + 2 + k, none⟩ = some (.int .u8 (d k)))) (Hd : Hid (∀ k, k < 4 → 0 ≤ d k ∧ d k ≤ 255)) :
    Calls Try.prog 13 #[.slice (some ⟨g, off, none⟩) n c] w fun e w' => Res d w e w' := by
  have f0 : ((n : Int) < 6) = False := by simp; omega
  go_enter Try.func13, Try.ntmps13
  go_wp2
  go_loop [4, 25] (fun v i => ∃ k : Nat, k ≤ 4 ∧ i = .int .i64 k ∧ v = .int .i32 (U d k) ∧ Hid (∀ j, j < k → 0 ≤ Plain.hv (d j))) (fun _ i => 4 - (intOf i).toNat)
  case atStart => exact ⟨0, Nat.zero_le _, rfl, rfl, fun j hj => absurd hj (by omega)⟩
  case round =>
    obtain ⟨k, hk, rfl, rfl, HB⟩ := hrel
    have hbd := U_bd d k HB.out hk
    by_cases hlt : k < 4
    · have hcell := Hc.out k hlt
      have hdk := Hd.out k hlt
      obtain ⟨x, hx⟩ : ∃ x, x = d k := ⟨_, rfl⟩
      obtain ⟨v, hv⟩ : ∃ v, v = U d k := ⟨_, rfl⟩
      rw [← hx] at hcell hdk
      rw [← hv] at hbd ⊢
      have HX : Hid (x = d k) := hx
      have HV : Hid (v = U d k) := hv
      clear hx hv c0 c1 f0
      obtain ⟨b0, b1⟩ := hbd
      obtain ⟨d0, d1⟩ := hdk
      by_cases hA : 48 ≤ x ∧ x ≤ 57
      · obtain ⟨a1, a2⟩ := hA
        have HH : Hid (Plain.hv x = x - 48) := by show _ = _; unfold Plain.hv; rw [if_pos ⟨a1, a2⟩]
        go_wp2
        go_round
        case rel => exact ⟨k + 1, by omega, by go_num, step HV HX b0 b1 HH.out (by omega) (by omega), more HB HX (by rw [HH.out]; omega)⟩
        case measure => simp [intOf]; omega
      · by_cases hB : 97 ≤ x ∧ x ≤ 102
        · obtain ⟨a1, a2⟩ := hB
          have HH : Hid (Plain.hv x = x - 87) := by show _ = _; unfold Plain.hv; rw [if_neg hA, if_pos ⟨a1, a2⟩]
          have n1 : decide (x ≤ 57) = false := by simp; omega
          clear hA
          go_wp2
          go_round
          case rel => exact ⟨k + 1, by omega, by go_num, step HV HX b0 b1 HH.out (by omega) (by omega), more HB HX (by rw [HH.out]; omega)⟩
          case measure => simp [intOf]; omega
        · by_cases hC : 65 ≤ x ∧ x ≤ 70
          · obtain ⟨a1, a2⟩ := hC
            have HH : Hid (Plain.hv x = x - 55) := by show _ = _; unfold Plain.hv; rw [if_neg hA, if_neg hB, if_pos ⟨a1, a2⟩]
            have n1 : decide (x ≤ 57) = false := by simp; omega
            have n2 : decide (97 ≤ x) = false := by simp; omega
            clear hA hB
            go_wp2
            go_round
            case rel => exact ⟨k + 1, by omega, by go_num, step HV HX b0 b1 HH.out (by omega) (by omega), more HB HX (by rw [HH.out]; omega)⟩
            case measure => simp [intOf]; omega
          · have HH : Hid (okD d = false) := okD_no d k hlt (by rw [← HX.out]; unfold Plain.hv; rw [if_neg hA, if_neg hB, if_neg hC]; omega)
            have R : Hid (Res d w (.returned (.tuple #[.int .i32 0, .bool false])) w) := ⟨rfl, .inr ⟨HH.out, rfl⟩⟩
            clear HB HV Hc Hd
            go_wp2
            all_goals (go_ret2; exact R.out)
    · have hk4 : k = 4 := by omega
      subst hk4
      go_wp2
      go_ret2
      exact ⟨rfl, .inl ⟨okD_yes d HB.out, rfl⟩⟩

/-- The bytes zs begin with an escape of a unit. -/
def okL (zs : List Int) : Bool := decide (6 ≤ zs.length) && (zs.getD 0 0 == 92) && (zs.getD 1 0 == 117) && okD (fun k => zs.getD (2 + k) 0)
/-- The unit. -/
def uL (zs : List Int) : Int := if okL zs then U (fun k => zs.getD (2 + k) 0) 4 else 0
theorem okL_short {zs : List Int} (h : zs.length < 6) : okL zs = false := by
  have e : decide (6 ≤ zs.length) = false := by simp; omega
  simp [okL, e]
theorem okL_bad0 {zs : List Int} (h : zs.getD 0 0 ≠ 92) : okL zs = false := by
  have e : (zs.getD 0 0 == 92) = false := beq_eq_false_iff_ne.2 h
  rw [okL, e]; simp
theorem okL_bad1 {zs : List Int} (h : zs.getD 1 0 ≠ 117) : okL zs = false := by
  have e : (zs.getD 1 0 == 117) = false := beq_eq_false_iff_ne.2 h
  rw [okL, e]; simp
theorem okL_eq {zs : List Int} (h6 : 6 ≤ zs.length) (h0 : zs.getD 0 0 = 92) (h1 : zs.getD 1 0 = 117) : okL zs = okD (fun k => zs.getD (2 + k) 0) := by
  have e6 : decide (6 ≤ zs.length) = true := by simp; omega
  have e0 : (zs.getD 0 0 == 92) = true := beq_iff_eq.2 h0
  have e1 : (zs.getD 1 0 == 117) = true := beq_iff_eq.2 h1
  rw [okL, e6, e0, e1]; simp
theorem uL_no {zs : List Int} (h : okL zs = false) : uL zs = 0 := by simp [uL, h]

/-- A slice of bytes that reads as zs. -/
def Row (w : World) (a : Option Addr) (n c : Nat) (zs : List Int) : Prop :=
  zs.length = n ∧ n ≤ c ∧ n ≤ 1048576 ∧ (∀ j, 0 ≤ zs.getD j 0 ∧ zs.getD j 0 ≤ 255) ∧ (0 < n → ∃ g off, a = some ⟨g, off, none⟩ ∧ ∀ j, j < n → w.cell? ⟨g, off + j, none⟩ = some (.int .u8 (zs.getD j 0)))

/-- What an unfit text comes to. -/
theorem no_ret {zs : List Int} (h : okL zs = false) : Ending.returned (.tuple #[.int .i32 0, .bool false]) = .returned (.tuple #[.int .i32 (uL zs), .bool (okL zs)]) := by
  rw [uL_no h, h]

set_option maxHeartbeats 400000 in
theorem hexU (a : Option Addr) (n c : Nat) (zs : List Int) (w : World) (H : Hid (Row w a n c zs)) :
    Calls Try.prog 13 #[.slice a n c] w fun e w' => e = .returned (.tuple #[.int .i32 (uL zs), .bool (okL zs)]) ∧ w' = w := by
  obtain ⟨hl, hnc, hn, hb, hc⟩ := H.out
  have HL : Hid (zs.length = n) := hl
  clear hl H
  by_cases h6 : n < 6
  · have HO : Hid (okL zs = false) := okL_short (by rw [HL.out]; exact h6)
    clear hb hc
    go_enter Try.func13, Try.ntmps13
    go_wp2
    go_ret2
    exact ⟨no_ret HO.out, rfl⟩
  obtain ⟨g, off, rfl, hcell⟩ := hc (by omega)
  have k0 : w.cell? ⟨g, off, none⟩ = some (.int .u8 (zs.getD 0 0)) := hcell 0 (by omega)
  have k1 := hcell 1 (by omega)
  by_cases h0 : zs.getD 0 0 = 92
  · rw [h0] at k0
    by_cases h1 : zs.getD 1 0 = 117
    · rw [h1] at k1
      have HO : Hid (okL zs = okD (fun k => zs.getD (2 + k) 0)) := okL_eq (by rw [HL.out]; omega) h0 h1
      refine (hex_try g off n c w (fun k => zs.getD (2 + k) 0) (by omega) hnc hn k0 k1 (fun k hk => by have := hcell (2 + k) (by omega); rw [← Nat.add_assoc] at this; exact this) (fun k _ => hb (2 + k))).mono ?_
      rintro e w' ⟨rfl, ⟨hok, rfl⟩ | ⟨hok, rfl⟩⟩
      · have h2 := HO.out.trans hok
        exact ⟨by rw [uL, h2, if_pos rfl], rfl⟩
      · have h2 := HO.out.trans hok
        exact ⟨no_ret h2, rfl⟩
    · have HO : Hid (okL zs = false) := okL_bad1 h1
      have hb1 := hb 1
      obtain ⟨x, hx⟩ : ∃ x, x = zs.getD 1 0 := ⟨_, rfl⟩
      rw [← hx] at k1 h1 hb1
      have e1 : (x != 117) = true := by rw [bne_iff_ne]; exact h1
      have f0 : decide ((n : Int) < 6) = false := by simp; omega
      clear hx hb hc hcell h0 h1
      go_enter Try.func13, Try.ntmps13
      go_wp2
      go_ret2
      exact ⟨no_ret HO.out, rfl⟩
  · have HO : Hid (okL zs = false) := okL_bad0 h0
    obtain ⟨x, hx⟩ : ∃ x, x = zs.getD 0 0 := ⟨_, rfl⟩
    rw [← hx] at k0 h0
    have e1 : (x != 92) = true := by rw [bne_iff_ne]; exact h0
    have f0 : decide ((n : Int) < 6) = false := by simp; omega
    clear hx hb hc hcell h0 k1
    go_enter Try.func13, Try.ntmps13
    go_wp2
    go_ret2
    exact ⟨no_ret HO.out, rfl⟩
end Go.Proofs.Qxb6618168a
