/-
  Seat b6618168a: the walks of modelUnitEscape (function 7), ZZHexUnit (function 6), zzBytes (function 5).
-/
import Derived.Test.Qxb6618168aUnit
namespace Go.Proofs.Qxb6618168a
open Go.RowKit

theorem zzHex (a : Option Addr) (n c : Nat) (zs : List Int) (w : World) (H : Hid (Row w a n c zs)) :
    Calls Try.prog 6 #[.slice a n c] w fun e w' => e = .returned (.tuple #[.int .i32 (uL zs), .bool (okL zs)]) ∧ w' = w := by
  go_enter Try.func6, Try.ntmps6
  go_wp2_with (go_at_call 13; refine (hexU _ _ _ zs _ H).mono ?_; rintro e w2 ⟨rfl, rfl⟩)
  go_ret2
  exact ⟨rfl, rfl⟩

/-- How zzBytes ends. -/
def Ends (n m : Nat) (w : World) (e : Ending) (w' : World) : Prop := ∃ r, e = .returned (.bool r) ∧ w' = w ∧ (r = true → n ≤ 1048576 ∧ m ≤ 1048576)

set_option maxHeartbeats 400000 in
theorem bytes (a b : Option Addr) (n c m d : Nat) (w : World) (hn : n ≤ maxLen) (hm : m ≤ maxLen) :
    Calls Try.prog 5 #[.slice a n c, .slice b m d] w fun e w' => Ends n m w e w' := by
  unfold maxLen at hn hm
  by_cases h1 : n ≤ 1048576
  · by_cases h2 : m ≤ 1048576
    · by_cases h3 : n + m ≤ 1048576
      · go_enter Try.func5, Try.ntmps5
        go_wp2
        go_ret
        exact ⟨true, rfl, rfl, fun _ => ⟨h1, h2⟩⟩
      · go_enter Try.func5, Try.ntmps5
        go_wp2
        go_ret
        exact ⟨false, rfl, rfl, by simp⟩
    · go_enter Try.func5, Try.ntmps5
      go_wp2
      go_ret
      exact ⟨false, rfl, rfl, by simp⟩
  · go_enter Try.func5, Try.ntmps5
    go_wp2
    go_ret
    exact ⟨false, rfl, rfl, by simp⟩

/-- How modelUnitEscape ends. -/
def EndsM (zs : List Int) (w : World) (e : Ending) (w' : World) : Prop := ∃ x, e = .returned (.tuple #[.int .i32 x, .bool (okL zs)]) ∧ w' = w

theorem endsM_no {zs : List Int} {w : World} (h : okL zs = false) : EndsM zs w (.returned (.tuple #[.int .i32 0, .bool false])) w := ⟨0, by rw [h], rfl⟩
theorem endsM_yes {zs : List Int} {w : World} (x : Int) (h : okL zs = true) : EndsM zs w (.returned (.tuple #[.int .i32 x, .bool true])) w := ⟨x, by rw [h], rfl⟩

set_option maxHeartbeats 1000000 in
theorem model (a : Option Addr) (n c : Nat) (zs : List Int) (w : World) (H : Hid (Row w a n c zs)) :
    Calls Try.prog 7 #[.slice a n c] w fun e w' => EndsM zs w e w' := by
  obtain ⟨hl, hnc, hn, hb, hc⟩ := H.out
  have HL : Hid (zs.length = n) := hl
  clear hl H
  by_cases h6 : n < 6
  · have HO : Hid (okL zs = false) := okL_short (by rw [HL.out]; exact h6)
    clear hb hc
    go_enter Try.func7, Try.ntmps7
    go_wp2
    go_ret2
    exact endsM_no HO.out
  obtain ⟨g, off, rfl, hcell⟩ := hc (by omega)
  have k0 : w.cell? ⟨g, off, none⟩ = some (.int .u8 (zs.getD 0 0)) := hcell 0 (by omega)
  have k1 := hcell 1 (by omega)
  have f0 : decide ((n : Int) < 6) = false := by simp; omega
  by_cases h0 : zs.getD 0 0 = 92
  · rw [h0] at k0
    by_cases h1 : zs.getD 1 0 = 117
    · rw [h1] at k1
      have HO : Hid (okL zs = okD (fun k => zs.getD (2 + k) 0)) := okL_eq (by rw [HL.out]; omega) h0 h1
      have k2 := hcell 2 (by omega)
      have k3 := hcell 3 (by omega)
      have k4 := hcell 4 (by omega)
      have k5 := hcell 5 (by omega)
      have b2 := hb 2
      have b3 := hb 3
      have b4 := hb 4
      have b5 := hb 5
      have HO1 : Hid (okL zs = (decide (0 ≤ Plain.hv (zs.getD 2 0)) && decide (0 ≤ Plain.hv (zs.getD 3 0)) && decide (0 ≤ Plain.hv (zs.getD 4 0)) && decide (0 ≤ Plain.hv (zs.getD 5 0)))) := HO.out
      generalize zs.getD 2 0 = x2 at *
      generalize zs.getD 3 0 = x3 at *
      generalize zs.getD 4 0 = x4 at *
      generalize zs.getD 5 0 = x5 at *
      have l2 := Plain.hv_le x2
      have l3 := Plain.hv_le x3
      have l4 := Plain.hv_le x4
      have l5 := Plain.hv_le x5
      clear hb hc hcell h0 h1 HO
      obtain ⟨b20, b21⟩ := b2
      obtain ⟨b30, b31⟩ := b3
      obtain ⟨b40, b41⟩ := b4
      obtain ⟨b50, b51⟩ := b5
      go_enter Try.func7, Try.ntmps7
      go_wp2_with fail
      refine (digit x2 b20 b21 _).mono ?_
      rintro e w1 ⟨rfl, rfl⟩
      go_wp2_with fail
      refine (digit x3 b30 b31 _).mono ?_
      rintro e w2 ⟨rfl, rfl⟩
      go_wp2_with fail
      refine (digit x4 b40 b41 _).mono ?_
      rintro e w3 ⟨rfl, rfl⟩
      go_wp2_with fail
      refine (digit x5 b50 b51 _).mono ?_
      rintro e w4 ⟨rfl, rfl⟩
      generalize Plain.hv x2 = y2 at *
      generalize Plain.hv x3 = y3 at *
      generalize Plain.hv x4 = y4 at *
      generalize Plain.hv x5 = y5 at *
      by_cases n2 : y2 < 0
      · have HN : Hid (okL zs = false) := by
          have e : decide (0 ≤ y2) = false := by simp; omega
          show _ = _
          rw [HO1.out, e]; simp
        go_wp2
        go_ret2
        exact endsM_no HN.out
      by_cases n3 : y3 < 0
      · have HN : Hid (okL zs = false) := by
          have e : decide (0 ≤ y3) = false := by simp; omega
          show _ = _
          rw [HO1.out, e]; simp
        go_wp2
        go_ret2
        exact endsM_no HN.out
      by_cases n4 : y4 < 0
      · have HN : Hid (okL zs = false) := by
          have e : decide (0 ≤ y4) = false := by simp; omega
          show _ = _
          rw [HO1.out, e]; simp
        go_wp2
        go_ret2
        exact endsM_no HN.out
      by_cases n5 : y5 < 0
      · have HN : Hid (okL zs = false) := by
          have e : decide (0 ≤ y5) = false := by simp; omega
          show _ = _
          rw [HO1.out, e]; simp
        go_wp2
        go_ret2
        exact endsM_no HN.out
      have HN : Hid (okL zs = true) := by
        have e2 : decide (0 ≤ y2) = true := by simp; omega
        have e3 : decide (0 ≤ y3) = true := by simp; omega
        have e4 : decide (0 ≤ y4) = true := by simp; omega
        have e5 : decide (0 ≤ y5) = true := by simp; omega
        show _ = _
        rw [HO1.out, e2, e3, e4, e5]; simp
      go_wp2
      go_ret2
      exact endsM_yes _ HN.out
    · have HO : Hid (okL zs = false) := okL_bad1 h1
      have hb1 := hb 1
      obtain ⟨x, hx⟩ : ∃ x, x = zs.getD 1 0 := ⟨_, rfl⟩
      rw [← hx] at k1 h1 hb1
      have e1 : (x != 117) = true := by rw [bne_iff_ne]; exact h1
      clear hx hb hc hcell h0 h1
      go_enter Try.func7, Try.ntmps7
      go_wp2
      go_ret2
      exact endsM_no HO.out
  · have HO : Hid (okL zs = false) := okL_bad0 h0
    obtain ⟨x, hx⟩ : ∃ x, x = zs.getD 0 0 := ⟨_, rfl⟩
    rw [← hx] at k0 h0
    have e1 : (x != 92) = true := by rw [bne_iff_ne]; exact h0
    clear hx hb hc hcell h0 k1
    go_enter Try.func7, Try.ntmps7
    go_wp2
    go_ret2
    exact endsM_no HO.out
end Go.Proofs.Qxb6618168a
