/-
  Seat b6619397a: the walk of the law (4), out of the contracts of what it calls.
-/
import Derived.Test.Qxb6619397aTail
namespace Go.Proofs.Qxb6619397a
open Go.RowKit

set_option maxRecDepth 100000 in
set_option maxHeartbeats 8000000 in
theorem law (a1 a2 a3 a4 : Option Addr) (n nt nx ni c1 c2 c3 c4 : Nat) (ks xs is : List Int) (ts : List ByteArray) (items pp lk lt li : Int) (W : World)
    (h1 : n ≤ maxLen) (h2 : nt ≤ maxLen) (h3 : nx ≤ maxLen) (h4 : ni ≤ maxLen) (hs : ∀ j, (ts.getD j ByteArray.empty).size ≤ maxLen)
    (z1 : a1 = none → n = 0) (z2 : a2 = none → nt = 0) (k3 : nx ≤ c3) (k4 : ni ≤ c4)
    (H1 : Hid (Ints W .u8 a1 n ks)) (H2 : Hid (Strs W a2 nt ts)) (H3 : Hid (Ints W .i64 a3 nx xs)) (H4 : Hid (Ints W .i64 a4 ni is)) :
    Calls Try.prog 4 #[.slice a1 n c1, .slice a2 nt c2, .slice a3 nx c3, .slice a4 ni c4, .int .i64 items, .int .i64 pp, .int .u8 lk, .int .i64 lt, .int .i64 li] W fun e w' => e = .returned (.bool true) ∧ Below W.heap.size W w' := by
  obtain ⟨i0, hi, hz0, hz1, hz2⟩ := info_parts info3
  obtain ⟨j0, hj0, hjz0, hjz1, hjz2⟩ := info_parts info4
  have hne := fun wx a n c => run_neq_slice_nil_any (P := Try.prog) wx 24 3 a n c 0 0 Try.underlying24
  have B10 := hid (bytes a1 a2 a3 a4 n nt nx ni c1 c2 c3 c4 items pp lk lt li ts W h1 h2 h3 h4 hs H2)
  unfold maxLen at h1 h2 h3 h4 hs
  have Z1 := hid z1
  have Z2 := hid z2
  clear z1 z2
  go_enter Try.func4, Try.ntmps4
  go_wp2_with fail
  refine B10.out.mono ?_
  rintro e w1 ⟨r, rfl, hw1⟩
  obtain rfl := hw1.symm
  clear B10
  cases r with
  | false =>
    go_wp2
    go_ret
    exact ⟨rfl, Below.refl _ _⟩
  | true =>
  by_cases b1 : n ≤ 65536
  case neg =>
    go_wp2
    go_ret
    exact ⟨rfl, Below.refl _ _⟩
  by_cases b2 : nt ≤ 65536
  case neg =>
    go_wp2
    go_ret
    exact ⟨rfl, Below.refl _ _⟩
  by_cases b3 : nx ≤ 65536
  case neg =>
    go_wp2
    go_ret
    exact ⟨rfl, Below.refl _ _⟩
  by_cases b4 : ni ≤ 65536
  case neg =>
    go_wp2
    go_ret
    exact ⟨rfl, Below.refl _ _⟩
  clear h1 h2 h3 h4
  go_upto_if 81 with fail
  go_cut [2, 19] from 82 to 88 (fun s _ wx => Cut W wx nx xs s)
  case first =>
    cases a3 with
    | none =>
      go_wp2
      go_meet
      case rel => exact ⟨none, c3, rfl, k3, H3.out, Below.refl _ _⟩
    | some x =>
      go_wp2_with (first | (at_make; refine wpList_make_full _ rfl (.tmp 83) (.tmp 83) 24 rfl W.heap.size 3 i0 (.int .i64 0) 1 Try.underlying24 hi hz0 hz1 _ _ _ _ nx rfl rfl rfl rfl (by rw [hz2]; omega) (by unfold maxLen; omega) (Nat.le_refl _) ?_; intro w2 hown hg; have hblk := hid (own_block hown); have hbl := (Below.refl W.heap.size W).grown hg (Nat.le_refl _) (by intro k h; cases h); have Hs2 := hid (src_of H3.out hbl); clear hown) | (refine wpList_copy_splice rfl (.tmp 85) (.tmp 86) 24 24 rfl 3 Try.underlying24 (by kernel_rfl) (some ⟨W.heap.size, 0, none⟩) (some x) nx nx nx c3 rfl rfl W.heap.size 0 (fresh3 nx) 3 hblk.out (cellsI xs nx) (by rw [cellsI_len]; simp) (fun h => ⟨rfl, Hs2.out h⟩) (by rw [cellsI_len, fresh3_len]; omega) (cellsI_one xs nx) W.heap.size W hbl (Nat.le_refl _) ?_; intro w3 hg3 hb3))
      go_meet
      case rel => exact ⟨_, nx, rfl, Nat.le_refl _, ints_of hg3, hb3⟩
  case rest =>
  obtain ⟨A3, d3, rfl, k3', r3, hbA⟩ := hcut
  have H3' := hid r3
  have H4' := hid (H4.out.kept hbA)
  have H1' := hid (H1.out.kept hbA)
  have H2' := hid (H2.out.kept hbA)
  clear r3 H3 H4 H1 H2 k3
  go_upto_if 90 with fail
  go_cut [3, 20] from 91 to 97 (fun s _ wx => Cut wc wx ni is s)
  case first =>
    cases a4 with
    | none =>
      go_wp2
      go_meet
      case rel => exact ⟨none, c4, rfl, k4, H4'.out, Below.refl _ _⟩
    | some x =>
      go_wp2_with (first | (at_make; refine wpList_make_full _ rfl (.tmp 92) (.tmp 92) 24 rfl wc.heap.size 3 i0 (.int .i64 0) 1 Try.underlying24 hi hz0 hz1 _ _ _ _ ni rfl rfl rfl rfl (by rw [hz2]; omega) (by unfold maxLen; omega) (Nat.le_refl _) ?_; intro w2 hown hg; have hblk := hid (own_block hown); have hbl := (Below.refl wc.heap.size wc).grown hg (Nat.le_refl _) (by intro k h; cases h); have Hs2 := hid (src_of H4'.out hbl); clear hown) | (refine wpList_copy_splice rfl (.tmp 94) (.tmp 95) 24 24 rfl 3 Try.underlying24 (by kernel_rfl) (some ⟨wc.heap.size, 0, none⟩) (some x) ni ni ni c4 rfl rfl wc.heap.size 0 (fresh3 ni) 3 hblk.out (cellsI is ni) (by rw [cellsI_len]; simp) (fun h => ⟨rfl, Hs2.out h⟩) (by rw [cellsI_len, fresh3_len]; omega) (cellsI_one is ni) wc.heap.size wc hbl (Nat.le_refl _) ?_; intro w3 hg3 hb3))
      go_meet
      case rel => exact ⟨_, ni, rfl, Nat.le_refl _, ints_of hg3, hb3⟩
  case rest =>
  obtain ⟨A4, d4, rfl, k4', r4, hbB⟩ := hcut
  have hB : Below W.heap.size W wc := hbA.trans (hbB.mono hbA.size)
  have H4 := hid r4
  have H3 := hid (H3'.out.kept hbB)
  have H1 := hid (H1'.out.kept hbB)
  have H2 := hid (H2'.out.kept hbB)
  clear r4 H3' H4' H1' H2' hbA hbB k4 hne
  by_cases hT : n + 8 * nx + 8 * ni + 16 * nt ≤ 1048576
  case neg =>
    go_wp2
    go_ret
    exact ⟨rfl, hB⟩
  go_wp2
  go_loop [21, 22] (fun v i => ∃ (j : Nat) (m : Int), j ≤ nt ∧ i = .int .i64 j ∧ v = .int .i64 m ∧ -9223372036854775808 ≤ m ∧ m ≤ 1048576) (fun _ i => nt - (intOf i).toNat)
  case atStart => exact ⟨0, n + 8 * nx + 8 * ni + 16 * nt, Nat.zero_le _, rfl, rfl, by omega, by omega⟩
  case round =>
  clear hT
  obtain ⟨j, m, hj, rfl, rfl, m0, m1⟩ := hrel
  by_cases hlt : j < nt
  · obtain ⟨g, off, rfl, hc⟩ := H2.out (by omega)
    have ck := hc j hlt
    have hz := hs j
    generalize ts.getD j ByteArray.empty = s at *
    clear hc hs
    by_cases hsum : m + s.size ≤ 1048576
    · go_wp2
      go_round
      case rel => exact ⟨j + 1, m + s.size, by omega, by go_num, rfl, by omega, by omega⟩
      case measure => simp [intOf]; omega
    · by_cases hmax : m + s.size < 9223372036854775808
      · go_wp2
        go_ret
        exact ⟨rfl, hB⟩
      · have hw : wrap64 (m + s.size) ≤ 1048576 := by unfold wrap64; omega
        go_wp2
        go_round
        case rel => exact ⟨j + 1, wrap64 (m + s.size), by omega, by go_num, rfl, by unfold wrap64; omega, hw⟩
        case measure => simp [intOf]; omega
  clear hs m0 m1
  by_cases e1 : nx = n
  case neg =>
    have e1' : ((nx : Int) != (n : Int)) = true := bne_iff_ne.2 (by omega)
    go_wp2
    go_ret
    exact ⟨rfl, hB⟩
  subst e1
  by_cases e2 : ni = nx
  case neg =>
    have e2' : ((ni : Int) != (nx : Int)) = true := bne_iff_ne.2 (by omega)
    go_wp2
    go_ret
    exact ⟨rfl, hB⟩
  subst e2
  by_cases p0 : 0 ≤ pp
  case neg =>
    go_wp2
    go_ret
    exact ⟨rfl, hB⟩
  by_cases p1 : pp ≤ ni
  case neg =>
    go_wp2
    go_ret
    exact ⟨rfl, hB⟩
  obtain ⟨P, rfl⟩ := Int.eq_ofNat_of_zero_le p0
  have hP : P ≤ ni := by omega
  clear p0 p1
  cases hlk : Plain.lock lk with
  | false =>
    go_wp2_with (go_at_call 6; refine (isLock lk _).mono ?_; rintro e w1 ⟨rfl, hw1⟩; obtain rfl := hw1.symm; rw [hlk])
    go_ret
    exact ⟨rfl, hB⟩
  | true =>
  go_wp2_with (first | (go_at_call 6; refine (isLock lk _).mono ?_; rintro e w1 ⟨rfl, hw1⟩; obtain rfl := hw1.symm; rw [hlk]) | (at_make; refine wpList_make_full _ rfl (.tmp 153) (.tmp 153) 35 rfl wc.heap.size 4 j0 (.bool false) 1 Try.underlying35 hj0 hjz0 hjz1 _ _ _ _ nt rfl rfl rfl rfl (by rw [hjz2]; omega) (by unfold maxLen; omega) (Nat.le_refl _) ?_; intro w2 hown hg))
  rw [hasR_zero nt xs] at hown
  go_loopw [24] (fun i wr => ∃ k : Nat, k ≤ ni ∧ i = .int .i64 k ∧ wr.ownsRow wc.heap.size 4 1 (.slice (some ⟨wc.heap.size, 0, none⟩) nt nt) nt (hasR nt xs k) ∧ Below wc.heap.size wc wr ∧ Hid (∀ q, q < k → 0 ≤ xs.getD q 0 ∧ xs.getD q 0 < nt)) (fun i _ => ni - (intOf i).toNat)
  case atStart => exact ⟨0, Nat.zero_le _, rfl, hown, (Below.refl _ _).grown hg (Nat.le_refl _) (by intro k h; cases h), fun q h => absurd h (by omega)⟩
  case round =>
  clear hown hg
  obtain ⟨k, hk, rfl, hown, hb, HQ⟩ := hrel
  by_cases hlt : k < ni
  · obtain ⟨g, off, rfl, hc⟩ := H3.out (by omega)
    have ck : wr.cell? ⟨g, off + k, none⟩ = some (.int .i64 (xs.getD k 0)) := (hb.cell (World.block_lt_of_cell? _ _ (hc k hlt))).trans (hc k hlt)
    have hBr : Below W.heap.size W wr := hB.trans (hb.mono hB.size)
    obtain ⟨x, hx⟩ : ∃ x, x = xs.getD k 0 := ⟨_, rfl⟩
    rw [← hx] at ck
    have HX := hid hx
    clear hx hc
    by_cases x0 : 0 ≤ x
    case neg =>
      clear hown
      go_wp2
      go_ret
      exact ⟨rfl, hBr⟩
    by_cases x1 : x < nt
    case neg =>
      clear hown
      go_wp2
      go_ret
      exact ⟨rfl, hBr⟩
    obtain ⟨X, rfl⟩ := Int.eq_ofNat_of_zero_le x0
    have hX : X < nt := by omega
    have c2 := (hown.cellAt X (by omega)).trans (hasR_at nt xs k X hX)
    have f2 := hown.frozenAt X
    have R := (hown.stored X (.bool true)).1
    rw [hasR_set nt xs k X HX.out.symm] at R
    have R1 := hid R
    have R2 := hid (hb.setCell (p := ⟨wc.heap.size, X, none⟩) (Nat.le_refl _) (.bool true))
    have R3 : Hid (∀ q, q < k + 1 → 0 ≤ xs.getD q 0 ∧ xs.getD q 0 < nt) := by
      intro q hq
      by_cases h : q < k
      · exact HQ.out q h
      · have : q = k := by omega
        subst this
        rw [← HX.out]; omega
    clear hown hb R HQ HX
    go_wp2
    go_roundw
    case rel => exact ⟨k + 1, by omega, by go_num, R1.out, R2.out, R3⟩
    case measure => simp [intOf]; omega
  have ek : k = ni := by omega
  subst ek
  have hBr : Below W.heap.size W wr := hB.trans (hb.mono hB.size)
  have G4 := hid (H4.out.kept hb)
  have G3 := hid (H3.out.kept hb)
  have G1 := hid (H1.out.kept hb)
  have G2 := hid (H2.out.kept hb)
  clear H1 H2 H3 H4 hB hb
  go_wp2
  go_loop [25] (fun i => ∃ t : Nat, t ≤ nt ∧ i = .int .i64 t ∧ Hid (∀ q, q < t → hit xs k q = true)) (fun i => nt - (intOf i).toNat)
  case atStart => exact ⟨0, Nat.zero_le _, rfl, fun q h => absurd h (by omega)⟩
  case round =>
  obtain ⟨t, ht, rfl, HH⟩ := hrel
  by_cases htn : t < nt
  · have c2 := (hown.cellAt t (by omega)).trans (hasR_at nt xs k t htn)
    obtain ⟨b, hb⟩ : ∃ b, b = hit xs k t := ⟨_, rfl⟩
    rw [← hb] at c2
    have HX := hid hb
    clear hb hown
    cases b with
    | false =>
      go_wp2
      go_ret
      exact ⟨rfl, hBr⟩
    | true =>
      go_wp2
      go_round
      case rel =>
        refine ⟨t + 1, by omega, by go_num, fun q hq => ?_⟩
        by_cases h : q < t
        · exact HH.out q h
        · have : q = t := by omega
          subst this
          exact HX.out.symm
      case measure => simp [intOf]; omega
  have et : t = nt := by omega
  subst et
  clear hown
  obtain ⟨w0, hw0⟩ : ∃ w0, w0 = wr := ⟨_, rfl⟩
  subst hw0
  obtain ⟨i33, hi33, hz330, hz331, hz332⟩ := info_parts info33
  have hm27 : ∀ w : World, (Instr.makeSlice 27 (.int .i64 0) (.int .i64 ((k : Int) + 1))).run Try.prog w = .ok (.slice (some ⟨w.heap.size, 0, none⟩) 0 (k + 1)) (w.alloc (row33 (k + 1))) := fun w => make27 (k + 1) (by omega) w
  have hm24 : ∀ w : World, (Instr.makeSlice 24 (.int .i64 0) (.int .i64 ((k : Int) + 1))).run Try.prog w = .ok (.slice (some ⟨w.heap.size, 0, none⟩) 0 (k + 1)) (w.alloc (row3 (k + 1))) := fun w => make24 (k + 1) (by omega) w
  obtain ⟨KK, hKK⟩ : ∃ KK, KK = Plain.ins ks k P lk := ⟨_, rfl⟩
  obtain ⟨XX, hXX⟩ : ∃ XX, XX = Plain.ins xs k P lt := ⟨_, rfl⟩
  obtain ⟨II, hII⟩ : ∃ II, II = Plain.ins is k P li := ⟨_, rfl⟩
  have EK := hid hKK
  have EX := hid hXX
  have EI := hid hII
  clear hKK hXX hII
  go_wp2
  clear hm27 hm24
  go_loopw [26, 27, 28, 29] (fun s1 s2 s3 i w => ∃ q a : Nat, q ≤ k + 1 ∧ i = .int .i64 q ∧ ((q ≤ P ∧ a = q) ∨ (P < q ∧ q ≤ k ∧ a = q + 1) ∨ (q = k + 1 ∧ a = k + 1)) ∧ s1 = .slice (some ⟨w0.heap.size, 0, none⟩) a (k + 1) ∧ s2 = .slice (some ⟨w0.heap.size + 1, 0, none⟩) a (k + 1) ∧ s3 = .slice (some ⟨w0.heap.size + 2, 0, none⟩) a (k + 1) ∧ Hid (St w0 (k + 1) a a a KK XX II w)) (fun _ _ _ i _ => k + 1 - (intOf i).toNat)
  case atStart => exact ⟨0, 0, Nat.zero_le _, rfl, .inl ⟨Nat.zero_le _, rfl⟩, rfl, by simp, by simp, St.start w0 (k + 1) (by omega) KK XX II⟩
  case round =>
  obtain ⟨q, a, hq, rfl, ha, rfl, rfl, rfl, S⟩ := hrel
  by_cases hqk : q ≤ k
  · by_cases hqP : q = P
    · subst hqP
      have haq : a = q := by omega
      subst haq
      have EK' := EK
      have EX' := EX
      have EI' := EI
      clear EK EX EI ha
      have EK : Hid (lk = KK.getD a 0) := by rw [EK'.out]; exact hid (by rw [Plain.ins_at _ _ _ _ _ (by omega)]; simp)
      have EX : Hid (lt = XX.getD a 0) := by rw [EX'.out]; exact hid (by rw [Plain.ins_at _ _ _ _ _ (by omega)]; simp)
      have EI : Hid (li = II.getD a 0) := by rw [EI'.out]; exact hid (by rw [Plain.ins_at _ _ _ _ _ (by omega)]; simp)
      by_cases hak : a < k
      · obtain ⟨gK, oK, rfl, hcK⟩ := G1.out (by omega)
        obtain ⟨gX, oX, rfl, hcX⟩ := G3.out (by omega)
        obtain ⟨gI, oI, rfl, hcI⟩ := G4.out (by omega)
        have cK := hid (hcK a hak)
        have cX := hid (hcX a hak)
        have cI := hid (hcI a hak)
        have FK : Hid (ks.getD a 0 = KK.getD (a + 1) 0) := by rw [EK'.out]; exact hid (by rw [Plain.ins_at _ _ _ _ _ (by omega), if_neg (by omega), if_neg (by omega)]; rfl)
        have FX : Hid (xs.getD a 0 = XX.getD (a + 1) 0) := by rw [EX'.out]; exact hid (by rw [Plain.ins_at _ _ _ _ _ (by omega), if_neg (by omega), if_neg (by omega)]; rfl)
        have FI : Hid (is.getD a 0 = II.getD (a + 1) 0) := by rw [EI'.out]; exact hid (by rw [Plain.ins_at _ _ _ _ _ (by omega), if_neg (by omega), if_neg (by omega)]; rfl)
        generalize ks.getD a 0 = vk at *
        generalize xs.getD a 0 = vx at *
        generalize is.getD a 0 = vi at *
        clear hcK hcX hcI EK' EX' EI' G1 G2 G3 G4 HH HQ
        go_wp2_with (first | (at_builtin; refine wpList_append_fits _ rfl (.tmp 213) (.tmp 215) 27 rfl w0.heap.size 33 i33 1 Try.underlying27 hi33 hz331 (w0.heap.size) _ (k + 1) _ rfl (S.out.new _).hK ⟨_, 0, none⟩ 1 1 [.int .u8 lk] rfl rfl (cell_one_new _ _ _) one_int (by omega) ?_; intro w2 ho hg; replace S := hid ((S.out.new _).addK EK.out ho hg); clear ho hg; have ck := S.out.cell cK.out; have cx := S.out.cell cX.out; have ci := S.out.cell cI.out) | (at_builtin; refine wpList_append_fits _ rfl (.tmp 217) (.tmp 219) 24 rfl w0.heap.size 3 i0 1 Try.underlying24 hi hz1 (w0.heap.size + 1) _ (k + 1) _ rfl (S.out.new _).hX ⟨_, 0, none⟩ 1 1 [.int .i64 lt] rfl rfl (cell_one_new _ _ _) one_int (by omega) ?_; intro w2 ho hg; replace S := hid ((S.out.new _).addX EX.out ho hg); clear ho hg; have ck := S.out.cell cK.out; have cx := S.out.cell cX.out; have ci := S.out.cell cI.out) | (at_builtin; refine wpList_append_fits _ rfl (.tmp 221) (.tmp 223) 24 rfl w0.heap.size 3 i0 1 Try.underlying24 hi hz1 (w0.heap.size + 2) _ (k + 1) _ rfl (S.out.new _).hI ⟨_, 0, none⟩ 1 1 [.int .i64 li] rfl rfl (cell_one_new _ _ _) one_int (by omega) ?_; intro w2 ho hg; replace S := hid ((S.out.new _).addI EI.out ho hg); clear ho hg; have ck := S.out.cell cK.out; have cx := S.out.cell cX.out; have ci := S.out.cell cI.out) | (at_builtin; refine wpList_append_fits _ rfl (.tmp 229) (.tmp 234) 27 rfl w0.heap.size 33 i33 1 Try.underlying27 hi33 hz331 (w0.heap.size) _ (k + 1) _ rfl (S.out.new _).hK ⟨_, 0, none⟩ 1 1 [.int .u8 vk] rfl rfl (cell_one_new _ _ _) one_int (by omega) ?_; intro w2 ho hg; replace S := hid ((S.out.new _).addK FK.out ho hg); clear ho hg; have ck := S.out.cell cK.out; have cx := S.out.cell cX.out; have ci := S.out.cell cI.out) | (at_builtin; refine wpList_append_fits _ rfl (.tmp 236) (.tmp 241) 24 rfl w0.heap.size 3 i0 1 Try.underlying24 hi hz1 (w0.heap.size + 1) _ (k + 1) _ rfl (S.out.new _).hX ⟨_, 0, none⟩ 1 1 [.int .i64 vx] rfl rfl (cell_one_new _ _ _) one_int (by omega) ?_; intro w2 ho hg; replace S := hid ((S.out.new _).addX FX.out ho hg); clear ho hg; have ck := S.out.cell cK.out; have cx := S.out.cell cX.out; have ci := S.out.cell cI.out) | (at_builtin; refine wpList_append_fits _ rfl (.tmp 243) (.tmp 248) 24 rfl w0.heap.size 3 i0 1 Try.underlying24 hi hz1 (w0.heap.size + 2) _ (k + 1) _ rfl (S.out.new _).hI ⟨_, 0, none⟩ 1 1 [.int .i64 vi] rfl rfl (cell_one_new _ _ _) one_int (by omega) ?_; intro w2 ho hg; replace S := hid ((S.out.new _).addI FI.out ho hg); clear ho hg; have ck := S.out.cell cK.out; have cx := S.out.cell cX.out; have ci := S.out.cell cI.out))
        go_roundw
        case rel => exact ⟨a + 1, a + 1 + 1, by omega, by go_num, by omega, rfl, rfl, rfl, S⟩
        case measure => simp [intOf] <;> omega
      · clear EK' EX' EI' G1 G2 G3 G4 HH HQ
        go_wp2_with (first | (at_builtin; refine wpList_append_fits _ rfl (.tmp 213) (.tmp 215) 27 rfl w0.heap.size 33 i33 1 Try.underlying27 hi33 hz331 (w0.heap.size) _ (k + 1) _ rfl (S.out.new _).hK ⟨_, 0, none⟩ 1 1 [.int .u8 lk] rfl rfl (cell_one_new _ _ _) one_int (by omega) ?_; intro w2 ho hg; replace S := hid ((S.out.new _).addK EK.out ho hg); clear ho hg) | (at_builtin; refine wpList_append_fits _ rfl (.tmp 217) (.tmp 219) 24 rfl w0.heap.size 3 i0 1 Try.underlying24 hi hz1 (w0.heap.size + 1) _ (k + 1) _ rfl (S.out.new _).hX ⟨_, 0, none⟩ 1 1 [.int .i64 lt] rfl rfl (cell_one_new _ _ _) one_int (by omega) ?_; intro w2 ho hg; replace S := hid ((S.out.new _).addX EX.out ho hg); clear ho hg) | (at_builtin; refine wpList_append_fits _ rfl (.tmp 221) (.tmp 223) 24 rfl w0.heap.size 3 i0 1 Try.underlying24 hi hz1 (w0.heap.size + 2) _ (k + 1) _ rfl (S.out.new _).hI ⟨_, 0, none⟩ 1 1 [.int .i64 li] rfl rfl (cell_one_new _ _ _) one_int (by omega) ?_; intro w2 ho hg; replace S := hid ((S.out.new _).addI EI.out ho hg); clear ho hg))
        go_roundw
        case rel => exact ⟨a + 1, a + 1, by omega, by go_num, by omega, rfl, rfl, rfl, S⟩
        case measure => simp [intOf] <;> omega
    · have hqb : ((q : Int) == (P : Int)) = false := beq_eq_false_iff_ne.2 (by omega)
      by_cases hak : q < k
      · obtain ⟨gK, oK, rfl, hcK⟩ := G1.out (by omega)
        obtain ⟨gX, oX, rfl, hcX⟩ := G3.out (by omega)
        obtain ⟨gI, oI, rfl, hcI⟩ := G4.out (by omega)
        have cK := hid (hcK q hak)
        have cX := hid (hcX q hak)
        have cI := hid (hcI q hak)
        have ha' : (q < P ∧ a = q) ∨ (P < q ∧ a = q + 1) := by omega
        have ins_a : ∀ (l : List Int) (v : Int), l.getD q 0 = (Plain.ins l k P v).getD a 0 := by
          intro l v
          rcases ha' with ⟨h, rfl⟩ | ⟨h, rfl⟩
          · rw [Plain.ins_at _ _ _ _ _ (by omega), if_pos h]
          · rw [Plain.ins_at _ _ _ _ _ (by omega), if_neg (by omega), if_neg (by omega)]; rfl
        have FK : Hid (ks.getD q 0 = KK.getD a 0) := by rw [EK.out]; exact hid (ins_a _ _)
        have FX : Hid (xs.getD q 0 = XX.getD a 0) := by rw [EX.out]; exact hid (ins_a _ _)
        have FI : Hid (is.getD q 0 = II.getD a 0) := by rw [EI.out]; exact hid (ins_a _ _)
        generalize ks.getD q 0 = vk at *
        generalize xs.getD q 0 = vx at *
        generalize is.getD q 0 = vi at *
        have hqP' : Hid (q ≠ P) := hqP
        have ha0 := hid ha'
        have hak1 : a ≤ k := by omega
        clear hcK hcX hcI EK EX EI G1 G2 G3 G4 HH HQ ins_a hqP ha ha'
        have ck := S.out.cell cK.out
        have cx := S.out.cell cX.out
        have ci := S.out.cell cI.out
        go_wp2_with (first | (at_builtin; refine wpList_append_fits _ rfl (.tmp 229) (.tmp 234) 27 rfl w0.heap.size 33 i33 1 Try.underlying27 hi33 hz331 (w0.heap.size) _ (k + 1) _ rfl (S.out.new _).hK ⟨_, 0, none⟩ 1 1 [.int .u8 vk] rfl rfl (cell_one_new _ _ _) one_int (by omega) ?_; intro w2 ho hg; replace S := hid ((S.out.new _).addK FK.out ho hg); clear ho hg; have ck := S.out.cell cK.out; have cx := S.out.cell cX.out; have ci := S.out.cell cI.out) | (at_builtin; refine wpList_append_fits _ rfl (.tmp 236) (.tmp 241) 24 rfl w0.heap.size 3 i0 1 Try.underlying24 hi hz1 (w0.heap.size + 1) _ (k + 1) _ rfl (S.out.new _).hX ⟨_, 0, none⟩ 1 1 [.int .i64 vx] rfl rfl (cell_one_new _ _ _) one_int (by omega) ?_; intro w2 ho hg; replace S := hid ((S.out.new _).addX FX.out ho hg); clear ho hg; have ck := S.out.cell cK.out; have cx := S.out.cell cX.out; have ci := S.out.cell cI.out) | (at_builtin; refine wpList_append_fits _ rfl (.tmp 243) (.tmp 248) 24 rfl w0.heap.size 3 i0 1 Try.underlying24 hi hz1 (w0.heap.size + 2) _ (k + 1) _ rfl (S.out.new _).hI ⟨_, 0, none⟩ 1 1 [.int .i64 vi] rfl rfl (cell_one_new _ _ _) one_int (by omega) ?_; intro w2 ho hg; replace S := hid ((S.out.new _).addI FI.out ho hg); clear ho hg; have ck := S.out.cell cK.out; have cx := S.out.cell cX.out; have ci := S.out.cell cI.out))
        go_roundw
        case rel =>
          have := ha0.out
          exact ⟨q + 1, a + 1, by omega, by go_num, by omega, rfl, rfl, rfl, S⟩
        case measure => simp [intOf] <;> omega
      · have hqk : q = k := by omega
        subst hqk
        have haq : a = q + 1 := by omega
        subst haq
        clear ha hqP
        go_wp2
        go_roundw
        case rel => exact ⟨q + 1, q + 1, by omega, by go_num, by omega, rfl, rfl, rfl, S⟩
        case measure => simp [intOf] <;> omega
  have eq1 : q = k + 1 := by omega
  have ea1 : a = k + 1 := by omega
  subst eq1
  subst ea1
  clear ha hq hqk
  obtain ⟨w4, hw4⟩ : ∃ w4, w4 = wr := ⟨_, rfl⟩
  subst hw4
  have hb4 : Below W.heap.size W w4 := hBr.trans (S.out.hB.mono hBr.size)
  have J1 := hid (G1.out.kept S.out.hB)
  have J2 := hid (G2.out.kept S.out.hB)
  have J3 := hid (G3.out.kept S.out.hB)
  have J4 := hid (G4.out.kept S.out.hB)
  have T := S.out.ints
  rw [EK.out, EX.out, EI.out] at T
  have TK := hid T.1
  have TX := hid T.2.1
  have TI := hid T.2.2
  clear T G1 G2 G3 G4 S EK EX EI hBr
  go_upto_region 54 with fail
  exact tail a1 a2 A3 A4 k t c1 c2 d3 d4 P w0.heap.size ks xs is ts items lk lt li W w4 b1 b2 hP hlk Z1 Z2 HQ HH hb4 J1 J2 J3 J4 TK TX TI _ _ (by kernel_rfl) _ (by assumption) _ _ _ _ _ _ _ _ _ _ _ _ _ _ _ _ _ _ _ _ _ _ _ _ _ _ _ _ _ _ _ _ _ _ _ _ _ _ _ _ _ _ _ _ _ _ _ _ _ _ _ _ _ _ _ _ _ _ _ _ _ _ _ _ _ _ _ _ _ _ _ _ _ _ _ _ _ _ _ _ _ _ _ _ _ _ _ _ _ _ _ _ _ _ _ _ _ _ _ _ _ _ _ _ _ _ _ _ _ _ _ _ _ _ _ _ _ _ _ _ _ _ _ _ _ _ _ _ _ _ _ _ _ _ _ _ _ _ _ _ _ _ _ _ _ _ _ _ _ _ _ _ _ _ _ _ _ _ _ _ _ _ _ _ _ _ _ _ _ _ _ _ _ _ _ _ _ _ _ _ _ _ _ _ _ _ _ _ _ _ _ _ _ _ _ _ _ _ _ _ _ _ _ _ _ _ _ _ _ _ _ _ _ _ _ _ _ _ _ _ _ _ _ _ _ _ _ _ _ _ _ _ _ _ _ _ _ _ _ _ _ _ _ _ _ _ _ _ _ _ _ _ _ _ _ _ _ _ _ _ _ _ _ _ _ _ _ _ _ _ _ _ _ _ _ _ _ _ _ _ _ _ _ _ _ _ _ _ _ _ _ _ _ _ _ _ _ _ _ _ _ _ _ _ _ _ _ _ _ _ _ _ _ _ _ _ _ _ _ _ _ _ _ _ _ _ _ _ _ _ _ _ _ _ _ _ _ _ _ _ _ _ _ _ _ _ _ _ _ _ _ _ _ _ _ _ _ _ _ _ _ _ _ _ _ _ _ _ _ _ _ _ _ _ _ _ _ _ _ _ _ _ _ _ _ _ _ _ _ _ _ _ _ _ _ _ _ _ _ _ _ _ _ _ _ _ _ _ _ _ _ _ _ _ _ _ _ _ _ _ _ _ _ _ _ _ _ _ _ _ _ _ _ _ _ _ _ _ _ _ _
end Go.Proofs.Qxb6619397a
