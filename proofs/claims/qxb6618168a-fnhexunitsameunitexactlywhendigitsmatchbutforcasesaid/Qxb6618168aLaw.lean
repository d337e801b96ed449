/-
  Seat b6618168a: the walk of the law (function 3), out of the contracts of what it calls.
-/
import Derived.Test.Qxb6618168aModel
import Derived.Laws.CopyOwn
import Derived.Deep.QuietTactic
import Derived.BigQuiet
import Derived.Deep.DeepCutAuto
namespace Go.Proofs.Qxb6618168a
open Go.RowKit

theorem hid {p : Prop} (h : p) : Hid p := h
theorem info5 : (Try.prog.info? 5).map (fun i => (i.zero, i.size, i.bytes)) = some (some (.int .u8 0), 1, 1) := by kernel_rfl

/-- The cells of the bytes. -/
def cells (zs : List Int) : List Value := zs.map (Value.int .u8)
theorem cells_len (zs : List Int) : (cells zs).length = zs.length := by simp [cells]
theorem cells_one (zs : List Int) : ∀ v ∈ cells zs, v.oneCell' = true := by
  intro v hv
  obtain ⟨s, _, rfl⟩ := List.mem_map.1 hv
  rfl
/-- A new row of n bytes. -/
def fresh (n : Nat) : List Value := List.replicate n (.int .u8 0)
theorem fresh_len (n : Nat) : (fresh n).length = n := by simp [fresh]

theorem own_block {w : World} {b g n : Nat} (h : w.ownsRow b 5 1 (.slice (some ⟨g, 0, none⟩) n n) n (madeCells (Value.int .u8 0).cells (n * 1)).toList) :
    w.heap[g]? = some (.cells (fresh n).toArray 5) := by
  have e : (Value.int .u8 0).cells = #[Value.int .u8 0] := rfl
  rw [e, toList_madeCells_one] at h
  obtain ⟨_, h | ⟨g', cap, cur, hv, _, hh, _, _, hs, ht⟩⟩ := h
  · cases h.1
  · simp at hv
    obtain ⟨rfl, rfl⟩ := hv
    rw [hh]
    congr 1
    have : cur.toList = fresh n := by
      rw [← List.take_length (l := cur.toList), Array.length_toList, hs, ht]
      simp [fresh]
    rw [← this]

theorem splice_all (n : Nat) (zs : List Int) (h : zs.length = n) : splice (fresh n) 0 (cells zs) = cells zs := by
  unfold splice
  rw [cells_len, h, List.drop_eq_nil_of_le (by rw [fresh_len]; omega)]
  simp

/-- A slice of bytes that came in: nil, or its elements lie there. -/
def Src (w : World) (a : Option Addr) (n : Nat) (zs : List Int) : Prop :=
  zs.length = n ∧ (a = none → n = 0) ∧ (∀ j, 0 ≤ zs.getD j 0 ∧ zs.getD j 0 ≤ 255) ∧ ∀ x, a = some x → ∀ (j : Nat) v, (cells zs)[j]? = some v → w.cell? (x.add j) = some v

theorem add_block (x : Addr) (j : Nat) : (x.add j).block = x.block := by
  unfold Addr.add
  split <;> rfl

theorem Src.kept {w w' : World} {a : Option Addr} {n : Nat} {zs : List Int} (h : Src w a n zs) (hb : Below w.heap.size w w') : Src w' a n zs :=
  ⟨h.1, h.2.1, h.2.2.1, fun x hx j v hv => by
    have hc := h.2.2.2 x hx j v hv
    have hlt := World.block_lt_of_cell? _ _ hc
    exact (hb.cell hlt).trans hc⟩

theorem Row.kept {w w' : World} {a : Option Addr} {n c : Nat} {zs : List Int} (h : Row w a n c zs) (hb : Below w.heap.size w w') : Row w' a n c zs := by
  obtain ⟨h1, h2, h3, h4, h5⟩ := h
  refine ⟨h1, h2, h3, h4, fun hn => ?_⟩
  obtain ⟨g, off, ha, hc⟩ := h5 hn
  refine ⟨g, off, ha, fun j hj => ?_⟩
  have hcj := hc j hj
  exact (hb.cell (World.block_lt_of_cell? _ _ hcj)).trans hcj

theorem row_nil {w : World} {n c : Nat} {zs : List Int} (hs : Src w none n zs) : Row w none n c zs := by
  have h0 := hs.2.1 rfl
  exact ⟨hs.1, by omega, by omega, hs.2.2.1, fun h => absurd h (by omega)⟩

theorem row_of {w : World} {g n : Nat} {zs : List Int} (hl : zs.length = n) (hn : n ≤ 1048576) (hb : ∀ j, 0 ≤ zs.getD j 0 ∧ zs.getD j 0 ≤ 255)
    (h : Hid (w.heap[g]? = some (.cells (splice (fresh n) 0 (cells zs)).toArray 5))) : Row w (some ⟨g, 0, none⟩) n n zs := by
  have h' := h.out
  rw [splice_all n zs hl] at h'
  refine ⟨hl, Nat.le_refl _, hn, hb, fun _ => ⟨g, 0, rfl, fun j hj => ?_⟩⟩
  have hj' : j < zs.length := by omega
  simp only [World.cell?, h']
  simp [cells, hj']

/-- The first k digits agree but for case. -/
def fo (za zb : List Int) : Nat → Bool
  | 0 => true
  | k + 1 => fo za zb k && (Plain.lo (za.getD (2 + k) 0) == Plain.lo (zb.getD (2 + k) 0))

theorem okL_digits {zs : List Int} (h : okL zs = true) : 6 ≤ zs.length ∧ ∀ j, j < 4 → 0 ≤ Plain.hv (zs.getD (2 + j) 0) := by
  unfold okL at h
  rw [Bool.and_eq_true] at h
  have h1 := h.1
  rw [Bool.and_eq_true, Bool.and_eq_true] at h1
  exact ⟨by simpa using h1.1.1, okD_all h.2⟩

theorem uL_bd {zs : List Int} (h : okL zs = true) : 0 ≤ uL zs ∧ uL zs ≤ 65535 := by
  rw [uL, h, if_pos rfl]
  exact U_bd _ 4 (okL_digits h).2 (Nat.le_refl _)

theorem fo_iff (za zb : List Int) (ha : okL za = true) (hb : okL zb = true) : (uL za == uL zb) = fo za zb 4 := by
  have da := (okL_digits ha).2
  have db := (okL_digits hb).2
  have key : ∀ j, j < 4 → ((Plain.lo (za.getD (2 + j) 0) == Plain.lo (zb.getD (2 + j) 0)) = (Plain.hv (za.getD (2 + j) 0) == Plain.hv (zb.getD (2 + j) 0))) := by
    intro j hj
    have := Plain.hv_lo _ _ (da j hj) (db j hj)
    rw [Bool.eq_iff_iff, beq_iff_eq, beq_iff_eq]
    exact this.symm
  simp only [fo, key 0 (by omega), key 1 (by omega), key 2 (by omega), key 3 (by omega)]
  rw [uL, ha, if_pos rfl, uL, hb, if_pos rfl]
  simp only [U]
  have a0 := da 0 (by omega); have a1 := da 1 (by omega); have a2 := da 2 (by omega); have a3 := da 3 (by omega)
  have b0 := db 0 (by omega); have b1 := db 1 (by omega); have b2 := db 2 (by omega); have b3 := db 3 (by omega)
  have a0' := (Plain.hv_le (za.getD (2 + 0) 0)).2; have a1' := (Plain.hv_le (za.getD (2 + 1) 0)).2; have a2' := (Plain.hv_le (za.getD (2 + 2) 0)).2; have a3' := (Plain.hv_le (za.getD (2 + 3) 0)).2
  have b0' := (Plain.hv_le (zb.getD (2 + 0) 0)).2; have b1' := (Plain.hv_le (zb.getD (2 + 1) 0)).2; have b2' := (Plain.hv_le (zb.getD (2 + 2) 0)).2; have b3' := (Plain.hv_le (zb.getD (2 + 3) 0)).2
  rw [Bool.eq_iff_iff]
  simp only [beq_iff_eq, Bool.and_eq_true]
  constructor
  · intro h
    refine ⟨⟨⟨⟨trivial, ?_⟩, ?_⟩, ?_⟩, ?_⟩ <;> omega
  · rintro ⟨⟨⟨⟨_, h0⟩, h1⟩, h2⟩, h3⟩
    omega

/-- What holds of a slice when its copy is made. -/
def Cut (W wx : World) (n : Nat) (zs : List Int) (s : Value) : Prop := ∃ A c, s = .slice A n c ∧ Row wx A n c zs ∧ Below W.heap.size W wx

set_option maxRecDepth 100000 in
set_option maxHeartbeats 1000000 in
theorem law (a b : Option Addr) (n c m d : Nat) (za zb : List Int) (w : World) (hn : n ≤ maxLen) (hm : m ≤ maxLen) (Ha : Hid (Src w a n za)) (Hb : Hid (Src w b m zb)) :
    Calls Try.prog 3 #[.slice a n c, .slice b m d] w fun e w' => e = .returned (.bool true) ∧ Below w.heap.size w w' := by
  obtain ⟨i0, hi, hz0, hz1, hz2⟩ := info_parts info5
  have hne := fun wx a n c => run_neq_slice_nil_any (P := Try.prog) wx 22 5 a n c 0 0 Try.underlying22
  go_enter Try.func3, Try.ntmps3
  go_wp2_with fail
  refine (bytes a b n c m d w hn hm).mono ?_
  rintro e w1 ⟨r, rfl, rfl, hr⟩
  cases r with
  | false =>
    go_wp2
    go_ret
    exact ⟨rfl, Below.refl _ _⟩
  | true =>
    obtain ⟨hn1, hm1⟩ := hr rfl
    clear hr hn hm
    go_upto_if 28 with fail
    go_cut [0] (fun s0 wx => Cut w1 wx n za s0)
    case first =>
      cases a with
      | none =>
        go_wp2
        go_meet
        case rel => exact ⟨none, c, rfl, row_nil Ha.out, Below.refl _ _⟩
      | some x =>
        go_wp2_with (first | (at_make; refine wpList_make_full _ rfl (.tmp 30) (.tmp 30) 22 rfl w1.heap.size 5 i0 (.int .u8 0) 1 Try.underlying22 hi hz0 hz1 _ _ _ _ n rfl rfl rfl rfl (by rw [hz2]; omega) (by unfold maxLen; omega) (Nat.le_refl _) ?_; intro w2 hown hg; have hblk := hid (own_block hown); have hbl := (Below.refl w1.heap.size w1).grown hg (Nat.le_refl _) (by intro k h; cases h); have Hs2 := hid ((Ha.out.kept hbl).2.2.2 x rfl); clear hown) | (refine wpList_copy_splice rfl (.tmp 32) (.tmp 33) 22 22 rfl 5 Try.underlying22 (by kernel_rfl) (some ⟨w1.heap.size, 0, none⟩) (some x) n n n c rfl rfl w1.heap.size 0 (fresh n) 5 hblk.out (cells za) (by rw [cells_len, Ha.out.1]; simp) (fun _ => ⟨rfl, x, rfl, Hs2.out⟩) (by rw [cells_len, fresh_len, Ha.out.1]; omega) (cells_one za) w1.heap.size w1 hbl (Nat.le_refl _) ?_; intro w3 hg3 hb3))
        go_meet
        case rel => exact ⟨_, n, rfl, row_of Ha.out.1 hn1 Ha.out.2.2.1 hg3, hb3⟩
    case rest =>
    obtain ⟨A, cA, rfl, rA, bA⟩ := hcut
    have HA2 := hid rA
    have Hb2 := hid (Hb.out.kept bA)
    clear rA Ha Hb
    go_upto_if 37 with fail
    go_cut [1] (fun s1 wx => Cut wc wx m zb s1)
    case first =>
      cases b with
      | none =>
        go_wp2
        go_meet
        case rel => exact ⟨none, d, rfl, row_nil Hb2.out, Below.refl _ _⟩
      | some x =>
        go_wp2_with (first | (at_make; refine wpList_make_full _ rfl (.tmp 39) (.tmp 39) 22 rfl wc.heap.size 5 i0 (.int .u8 0) 1 Try.underlying22 hi hz0 hz1 _ _ _ _ m rfl rfl rfl rfl (by rw [hz2]; omega) (by unfold maxLen; omega) (Nat.le_refl _) ?_; intro w2 hown hg; have hblk := hid (own_block hown); have hbl := (Below.refl wc.heap.size wc).grown hg (Nat.le_refl _) (by intro k h; cases h); have Hs2 := hid ((Hb2.out.kept hbl).2.2.2 x rfl); clear hown) | (refine wpList_copy_splice rfl (.tmp 41) (.tmp 42) 22 22 rfl 5 Try.underlying22 (by kernel_rfl) (some ⟨wc.heap.size, 0, none⟩) (some x) m m m d rfl rfl wc.heap.size 0 (fresh m) 5 hblk.out (cells zb) (by rw [cells_len, Hb2.out.1]; simp) (fun _ => ⟨rfl, x, rfl, Hs2.out⟩) (by rw [cells_len, fresh_len, Hb2.out.1]; omega) (cells_one zb) wc.heap.size wc hbl (Nat.le_refl _) ?_; intro w3 hg3 hb3))
        go_meet
        case rel => exact ⟨_, m, rfl, row_of Hb2.out.1 hm1 Hb2.out.2.2.1 hg3, hb3⟩
    case rest =>
    obtain ⟨B, cB, rfl, rB, bB⟩ := hcut
    have hB : Below w1.heap.size w1 wc := bA.trans (bB.mono bA.size)
    have RA := hid (HA2.out.kept bB)
    have RB := hid rB
    clear rB bA bB HA2 Hb2 hne hi hz0 hz1 hz2
    go_wp2_with fail
    refine (zzHex A n cA za wc RA).mono ?_
    rintro e w2 ⟨rfl, hw2⟩
    obtain rfl := hw2
    go_wp2_with fail
    refine (zzHex B m cB zb _ RB).mono ?_
    rintro e w3 ⟨rfl, hw3⟩
    obtain rfl := hw3
    go_wp2_with fail
    refine (model A n cA za _ RA).mono ?_
    rintro e w4 ⟨xa, rfl, hw4⟩
    obtain rfl := hw4
    go_wp2_with fail
    refine (model B m cB zb _ RB).mono ?_
    rintro e w5 ⟨xb, rfl, hw5⟩
    obtain rfl := hw5
    have HFO := hid (fo_iff za zb)
    have HUA := hid (uL_no (zs := za))
    have HUB := hid (uL_no (zs := zb))
    have HVA := hid (uL_bd (zs := za))
    have HVB := hid (uL_bd (zs := zb))
    have HDA := hid (okL_digits (zs := za))
    have HDB := hid (okL_digits (zs := zb))
    generalize okL za = oa at *
    generalize okL zb = ob at *
    generalize uL za = ua at *
    generalize uL zb = ub at *
    cases oa with
    | false =>
      obtain rfl := HUA.out rfl
      cases ob with
      | false =>
        obtain rfl := HUB.out rfl
        go_wp2
        go_ret
        exact ⟨rfl, hB⟩
      | true =>
        obtain ⟨v0, v1⟩ := HVB.out rfl
        go_wp2
        go_ret
        exact ⟨rfl, hB⟩
    | true =>
      obtain ⟨y0, y1⟩ := HVA.out rfl
      cases ob with
      | false =>
        obtain rfl := HUB.out rfl
        go_wp2
        go_ret
        exact ⟨rfl, hB⟩
      | true =>
        obtain ⟨v0, v1⟩ := HVB.out rfl
        have n6 : 6 ≤ n := by rw [← RA.out.1]; exact (HDA.out rfl).1
        have m6 : 6 ≤ m := by rw [← RB.out.1]; exact (HDB.out rfl).1
        have BA := hid RA.out.2.2.2.1
        have BB := hid RB.out.2.2.2.1
        obtain ⟨gA, oA, rfl, hcA⟩ := RA.out.2.2.2.2 (by omega)
        obtain ⟨gB, oB, rfl, hcB⟩ := RB.out.2.2.2.2 (by omega)
        have CA := hid hcA
        have CB := hid hcB
        have HF := hid (HFO.out rfl rfl)
        have f1 : decide (ua < 0) = false := by simp; omega
        have f2 : decide (65535 < ua) = false := by simp; omega
        have f3 : decide (ub < 0) = false := by simp; omega
        have f4 : decide (65535 < ub) = false := by simp; omega
        clear hcA hcB RA RB HDA HDB HVA HVB HUA HUB HFO
        go_wp2
        go_loopw [15, 16] (fun v i wr => ∃ j k : Nat, Hid (j = 2 + k) ∧ j ≤ 6 ∧ i = .int .i64 j ∧ v = .bool (fo za zb k) ∧ ∃ q, wr = w5.drewN q) (fun _ i _ => 6 - (intOf i).toNat)
        case atStart => exact ⟨2, 0, rfl, by decide, rfl, rfl, 0, rfl⟩
        case round =>
          obtain ⟨j, k, HJ, hj, rfl, rfl, q, hq⟩ := hrel
          have HQ := hid hq
          clear hq
          by_cases hlt : j < 6
          · have ca : wr.cell? ⟨gA, oA + j, none⟩ = some (.int .u8 (za.getD j 0)) := by rw [HQ.out]; exact CA.out j (by omega)
            have cb : wr.cell? ⟨gB, oB + j, none⟩ = some (.int .u8 (zb.getD j 0)) := by rw [HQ.out]; exact CB.out j (by omega)
            obtain ⟨xA0, xA1⟩ := BA.out j
            obtain ⟨xB0, xB1⟩ := BB.out j
            have HK : Hid (fo za zb (k + 1) = (fo za zb k && (Plain.lo (za.getD j 0) == Plain.lo (zb.getD j 0)))) := by rw [HJ.out]; exact rfl
            generalize za.getD j 0 = x at *
            generalize zb.getD j 0 = y at *
            have g1 : (j : Int) < n := by omega
            have g2 : (j : Int) < m := by omega
            have g3 : decide ((j : Int) < 6) = true := by simp; omega
            go_wp2
            go_quiet ((go_at_call 8; refine Calls.quiet_of_same (lower _ ?_ ?_ _) <;> assumption))
            cases hxy : (Plain.lo x == Plain.lo y) with
            | true =>
              have hb : (Plain.lo x != Plain.lo y) = false := by rw [bne, hxy]; rfl
              rw [hxy, Bool.and_true] at HK
              clear hxy
              go_wp2
              go_roundw
              case rel => exact ⟨j + 1, k + 1, by rw [HJ.out]; exact rfl, by omega, by go_num, by rw [HK.out], q + nq, by rw [HQ.out, World.drewN_drewN]⟩
              case measure => simp [intOf]; omega
            | false =>
              have hb : (Plain.lo x != Plain.lo y) = true := by rw [bne, hxy]; rfl
              rw [hxy, Bool.and_false] at HK
              clear hxy
              go_wp2
              go_roundw
              case rel => exact ⟨j + 1, k + 1, by rw [HJ.out]; exact rfl, by omega, by go_num, by rw [HK.out], q + nq, by rw [HQ.out, World.drewN_drewN]⟩
              case measure => simp [intOf]; omega
          · have hk4 : k = 4 := by have := HJ.out; omega
            subst hk4
            have hfin := HF.out
            have g3 : decide ((j : Int) < 6) = false := by simp; omega
            go_wp2
            go_ret
            exact ⟨rfl, by rw [HQ.out]; exact below_drewN hB _⟩
end Go.Proofs.Qxb6618168a
