/-
  Seat b6621692a: the walk of FnTypesStringJoinsAtAnyCut (function 3), out of the contracts of what it calls.
-/
import Derived.Test.Qxb6621692aStr
import Derived.Test.Qxb6621692aBytes
import Derived.Laws.CopyOwn
namespace Go.Proofs.Qxb6621692a
open Go.RowKit

theorem ret_bool {a b : Bool} (h : a = b) : Ending.returned (.bool a) = .returned (.bool b) := by rw [h]

theorem hid {p : Prop} (h : p) : Hid p := h

/-- No name at all. -/
theorem law_empty (a : Option Addr) (c : Nat) (k : Int) (w : World) :
    Calls Try.prog 3 #[.slice a 0 c, .int .i64 k] w fun e w' => e = .returned (.bool true) ∧ Below w.heap.size w w' := by
  obtain ⟨i0, hi, hz0, hz1, hz2⟩ := info_parts info9
  have hne := fun wx a n c => run_neq_slice_nil_any (P := Try.prog) wx 22 9 a n c 0 0 Try.underlying22
  cases a with
  | none =>
    go_enter Try.func3, Try.ntmps3
    go_wp2_with (go_at_call 4; refine (bytes_none _ _ _ _).mono ?_; rintro e w1 ⟨rfl, rfl⟩)
    refine wp_loop_rounds 1 ?_
    rw [rounds_succ]
    go_wp2_with (go_at_call 5; refine (zz_none _ _ _).mono ?_; rintro e w2 ⟨rfl, hb2⟩)
    go_ret
    exact ⟨rfl, hb2⟩
  | some x =>
    go_enter Try.func3, Try.ntmps3
    go_wp2_with (first | (go_at_call 4; refine (bytes_none _ _ _ _).mono ?_; rintro e w1 ⟨rfl, rfl⟩) | (at_make; refine wpList_make_full _ rfl (.tmp 20) (.tmp 20) 22 rfl w1.heap.size 9 i0 (.string ByteArray.empty) 1 Try.underlying22 hi hz0 hz1 _ _ _ _ 0 rfl rfl rfl rfl (by rw [hz2]; omega) (by unfold maxLen; omega) (Nat.le_refl _) ?_; intro w2 hown hg) | (refine wpList_copy_nothing rfl (.tmp 22) (.tmp 23) 22 22 rfl 9 Try.underlying22 (by kernel_rfl) _ _ _ _ _ _ rfl rfl rfl ?_))
    refine wp_loop_rounds 1 ?_
    rw [rounds_succ]
    go_wp2_with (go_at_call 5; refine (zz_none _ _ _).mono ?_; rintro e w3 ⟨rfl, hb3⟩)
    go_ret
    exact ⟨rfl, ((Below.refl _ _).grown hg (Nat.le_refl _) (by intro k h; cases h)).trans (hb3.mono hg.size)⟩

/-- The names lie in block g, from its head on. -/
def Lies (w : World) (g : Nat) (xs : List ByteArray) : Prop := g < w.heap.size ∧ ∀ (j : Nat) x, xs[j]? = some x → w.cell? ⟨g, j, none⟩ = some (.string x)

theorem Lies.kept {w w' : World} {g : Nat} {xs : List ByteArray} (h : Lies w g xs) (hb : Below w.heap.size w w') : Lies w' g xs :=
  ⟨Nat.lt_of_lt_of_le h.1 hb.size, fun j x hx => (hb.cell (p := ⟨g, j, none⟩) h.1).trans (h.2 j x hx)⟩

theorem tot_cut (xs : List ByteArray) (i m : Nat) : Plain.tot ((xs.drop i).take m) ≤ Plain.tot xs := by
  have h1 := Plain.tot_append (xs.take i) (xs.drop i)
  rw [List.take_append_drop] at h1
  have h2 := Plain.tot_append ((xs.drop i).take m) ((xs.drop i).drop m)
  rw [List.take_append_drop] at h2
  omega

/-- The message of a cut of the names. -/
theorem zz_cut (g i m c : Nat) (xs : List ByteArray) (r : ByteArray) (w : World) (hl : Lies w g xs) (Ht : Hid (Plain.tot xs ≤ 1048576)) (Hr : Hid (Plain.msgB ((xs.drop i).take m) = r)) (hm : 0 < m) (hmc : m ≤ c) (Him : Hid (i + m ≤ xs.length)) :
    Calls Try.prog 5 #[.slice (some ⟨g, i, none⟩) m c] w fun e w' => e = .returned (.string r) ∧ Below w.heap.size w w' ∧ Lies w' g xs := by
  have hn : 16 * xs.length ≤ Plain.tot xs := Plain.tot_len xs
  have ht := Ht.out
  have him := Him.out
  have hlen : m = ((xs.drop i).take m).length := by rw [List.length_take, List.length_drop]; omega
  refine (zz_some g i m c ((xs.drop i).take m) w hlen hl.1 hmc hm (by omega) ?_ ?_).mono ?_
  · intro j x hx
    have hj : j < m := by have := (List.getElem?_eq_some_iff.1 hx).1; omega
    rw [List.getElem?_take_of_lt hj, List.getElem?_drop] at hx
    exact hl.2 (i + j) x hx
  · exact Nat.le_trans (tot_cut xs i m) (by omega)
  · rintro e w' ⟨rfl, hb⟩
    exact ⟨by rw [Hr.out], hb, hl.kept hb⟩

/-- A new row of n empty names. -/
def fresh (n : Nat) : List Value := List.replicate n (.string ByteArray.empty)
theorem fresh_len (n : Nat) : (fresh n).length = n := by simp [fresh]

theorem own_block {w : World} {g n : Nat} (h : w.ownsRow g 9 1 (.slice (some ⟨g, 0, none⟩) n n) n (madeCells (Value.string ByteArray.empty).cells (n * 1)).toList) :
    w.heap[g]? = some (.cells (fresh n).toArray 9) := by
  have e : (Value.string ByteArray.empty).cells = #[Value.string ByteArray.empty] := rfl
  rw [e, toList_madeCells_one] at h
  obtain ⟨_, h | ⟨g', cap, cur, hv, _, hh, _, _, hs, ht⟩⟩ := h
  · cases h.1
  · simp at hv
    obtain ⟨rfl, rfl⟩ := hv
    rw [hh]
    congr 1
    have : cur.toList = fresh n := by
      rw [← List.take_length (l := cur.toList), Array.length_toList, hs, ht]
      simp [fresh]
    rw [← this]

/-- The cells of the names. -/
def cells (xs : List ByteArray) : List Value := xs.map Value.string
theorem cells_len (xs : List ByteArray) : (cells xs).length = xs.length := by simp [cells]
theorem cells_one (xs : List ByteArray) : ∀ v ∈ cells xs, v.oneCell' = true := by
  intro v hv
  obtain ⟨s, _, rfl⟩ := List.mem_map.1 hv
  rfl

theorem splice_all (n : Nat) (xs : List ByteArray) (h : xs.length = n) : splice (fresh n) 0 (cells xs) = cells xs := by
  unfold splice
  rw [cells_len, h, List.drop_eq_nil_of_le (by rw [fresh_len]; omega)]
  simp

theorem lies_of {w : World} {g n : Nat} {xs : List ByteArray} (hx : xs.length = n) (h : Hid (w.heap[g]? = some (.cells (splice (fresh n) 0 (cells xs)).toArray 9))) : Lies w g xs := by
  have h' := h.out
  rw [splice_all n xs hx] at h'
  constructor
  · exact (Array.getElem?_eq_some_iff.1 h').1
  · intro j x hj
    simp only [World.cell?, h']
    simp [cells, hj]

theorem add_at (b off j : Nat) : (⟨b, off, none⟩ : Addr).add j = ⟨b, off + j, none⟩ := by
  unfold Addr.add
  split
  · rename_i h
    have : j = 0 := by simpa using h
    subst this; rfl
  · rfl

/-- The source's cells, in the world behind 'make'. -/
theorem src_kept {w w2 : World} {b off : Nat} {xs : List ByteArray} (hb : Below w.heap.size w w2) (hb0 : b < w.heap.size)
    (h : Hid (∀ (j : Nat) v, (cells xs)[j]? = some v → w.cell? ((⟨b, off, none⟩ : Addr).add j) = some v)) :
    Hid (∀ (j : Nat) v, (cells xs)[j]? = some v → w2.cell? ((⟨b, off, none⟩ : Addr).add j) = some v) := by
  intro j v hv
  have := h.out j v hv
  rw [add_at] at this ⊢
  exact (hb.cell (p := ⟨b, off + j, none⟩) hb0).trans this

theorem msg_at (xs : List ByteArray) (i : Nat) (s : ByteArray) (h : xs[i]? = some s) : Plain.msgB ((xs.drop i).take 1) = Plain.nmd s := by
  obtain ⟨hi, rfl⟩ := List.getElem?_eq_some_iff.1 h
  rw [List.drop_eq_getElem_cons hi, List.take_succ_cons, List.take_zero, Plain.msgB_one]

theorem msg_all (xs : List ByteArray) (n : Nat) (h : xs.length = n) : Plain.msgB ((xs.drop 0).take n) = Plain.msgB xs := by
  rw [List.drop_zero, ← h, List.take_length]

theorem msgB_size (l : List ByteArray) (h : Plain.tot l ≤ 1048576) : (Plain.msgB l).size ≤ 2097152 := by
  have := Plain.msg_len l
  have e : (Plain.msgB l).size = (Plain.msg l).length := by simp [Plain.msgB, ByteArray.size]
  omega

theorem msgB_cut (xs : List ByteArray) (q : Nat) (h1 : 0 < q) (h2 : q < xs.length) :
    Plain.msgB xs = Plain.msgB (xs.take q) ++ { data := #[32, 111, 114, 32] } ++ Plain.msgB (xs.drop q) := by
  have h := Plain.msg_cut xs q h1 h2
  apply ByteArray.ext
  apply Array.ext'
  simp only [Plain.msgB, ByteArray.data_append, Array.toList_append]
  rw [h]
  simp [Plain.sep]

set_option maxHeartbeats 1000000 in
theorem law_some (b off n c : Nat) (xs : List ByteArray) (k : Int) (w : World) (hn1 : 0 < n) (hnc : n ≤ c) (hm : n ≤ maxLen) (hb0 : b < w.heap.size)
    (hsm : ∀ j, (xs.getD j ByteArray.empty).size ≤ maxLen) (Hx : Hid (xs.length = n))
    (Hc : Hid (∀ j, j < n → w.cell? ⟨b, off + j, none⟩ = some (.string (xs.getD j ByteArray.empty)))) :
    Calls Try.prog 3 #[.slice (some ⟨b, off, none⟩) n c, .int .i64 k] w fun e w' => e = .returned (.bool true) ∧ Below w.heap.size w w' := by
  obtain ⟨i0, hi, hz0, hz1, hz2⟩ := info_parts info9
  have hne := fun wx a n c => run_neq_slice_nil_any (P := Try.prog) wx 22 9 a n c 0 0 Try.underlying22
  go_enter Try.func3, Try.ntmps3
  go_wp2_with fail
  refine (bytes_some b off n c xs k w hm hsm Hc).mono ?_
  rintro e w1 ⟨r, rfl, rfl, hr⟩
  cases r with
  | false =>
    go_wp2
    go_ret
    exact ⟨rfl, Below.refl _ _⟩
  | true =>
    have hn2 : n ≤ 1048576 := hr rfl
    clear hr hm
    have hcs : ∀ (j : Nat) v, (cells xs)[j]? = some v → w1.cell? ((⟨b, off, none⟩ : Addr).add j) = some v := by
      intro j v hv
      simp only [cells, List.getElem?_map] at hv
      obtain ⟨s, hs, rfl⟩ := Option.map_eq_some_iff.1 hv
      have hj : j < xs.length := (List.getElem?_eq_some_iff.1 hs).1
      have := Hc.out j (by rw [← Hx.out]; exact hj)
      rw [List.getD, hs] at this
      rw [add_at]
      exact this
    have Hcs := hid hcs
    clear hcs
    go_wp2_with (first | (at_make; refine wpList_make_full _ rfl (.tmp 20) (.tmp 20) 22 rfl w1.heap.size 9 i0 (.string ByteArray.empty) 1 Try.underlying22 hi hz0 hz1 _ _ _ _ n rfl rfl rfl rfl (by rw [hz2]; omega) (by unfold maxLen; omega) (Nat.le_refl _) ?_; intro w2 hown hg; have hblk := hid (own_block hown); have hbl := (Below.refl w1.heap.size w1).grown hg (Nat.le_refl _) (by intro k h; cases h); have Hs2 := src_kept hbl hb0 Hcs; clear hown) | (refine wpList_copy_splice rfl (.tmp 22) (.tmp 23) 22 22 rfl 9 Try.underlying22 (by kernel_rfl) (some ⟨w1.heap.size, 0, none⟩) (some ⟨b, off, none⟩) n n n c rfl rfl w1.heap.size 0 (fresh n) 9 hblk.out (cells xs) (by rw [cells_len, Hx.out]; simp) (fun _ => ⟨rfl, ⟨b, off, none⟩, rfl, Hs2.out⟩) (by rw [cells_len, fresh_len, Hx.out]; omega) (cells_one xs) w1.heap.size w1 hbl (Nat.le_refl _) ?_; intro w3 hg3 hb3))
    have hl : Lies w3 w1.heap.size xs := lies_of Hx.out hg3
    clear hg3 hblk hbl Hs2 Hcs Hc hg
    unfold maxLen at hsm
    go_loop [6, 7] (fun v i => ∃ j : Nat, j ≤ n ∧ i = .int .i64 j ∧ v = .int .i64 (Plain.tot (xs.take j)) ∧ Plain.tot (xs.take j) ≤ 1048576) (fun _ i => n - (intOf i).toNat)
    case atStart => exact ⟨0, Nat.zero_le _, rfl, rfl, by simp [Plain.tot]⟩
    case round =>
      obtain ⟨j, hj, rfl, rfl, ht⟩ := hrel
      by_cases hlt : j < n
      · obtain ⟨s, hs⟩ : ∃ s, xs[j]? = some s := ⟨xs[j]'(by rw [Hx.out]; exact hlt), by simp⟩
        have hcell := hl.2 j s hs
        have hz : s.size ≤ 9223372036854775807 := by have := hsm j; rw [List.getD, hs] at this; exact this
        have HT : Hid (Plain.tot (xs.take (j + 1)) = Plain.tot (xs.take j) + (16 + s.size)) := by
          obtain ⟨hj', e⟩ := List.getElem?_eq_some_iff.1 hs
          show _ = _
          rw [List.take_succ_eq_append_getElem hj', Plain.tot_snoc, e]
        clear hs hsm
        by_cases hbig : s.size ≤ 1048576
        · by_cases hsum : Plain.tot (xs.take j) + (16 + s.size) ≤ 1048576
          · go_wp2
            go_round
            case rel => exact ⟨j + 1, by omega, by go_num, by rw [HT.out]; go_num, by rw [HT.out]; exact hsum⟩
            case measure => simp [intOf]; omega
          · go_wp2
            go_ret
            exact ⟨rfl, hb3⟩
        · go_wp2
          go_ret
          exact ⟨rfl, hb3⟩
      · have Ht : Hid (Plain.tot xs ≤ 1048576) := by
          have e : j = xs.length := by rw [Hx.out]; omega
          rw [e, List.take_length] at ht
          exact ht
        clear ht hsm
        obtain ⟨x0, hx0⟩ : ∃ s, xs[0]? = some s := ⟨xs[0]'(by rw [Hx.out]; omega), by simp⟩
        have H0 : Hid (xs[0]? = some x0) := hx0
        clear hx0
        have hz0 : x0.size ≤ 1048576 := Nat.le_trans (Plain.tot_mem xs x0 (List.mem_of_getElem? H0.out)) Ht.out
        by_cases hone : n = 1
        · subst hone
          go_wp2_with fail
          refine (zz_cut w1.heap.size 0 1 1 xs (Plain.nmd x0) w3 hl Ht (msg_at xs 0 x0 H0.out) (by omega) (by omega) (by rw [Hx.out]; exact Nat.le_refl _)).mono ?_
          rintro e w4 ⟨rfl, hb4, hl4⟩
          go_wp2_with fail
          refine (zz_cut w1.heap.size 0 1 1 xs (Plain.nmd x0) w4 hl4 Ht (msg_at xs 0 x0 H0.out) (by omega) (by omega) (by rw [Hx.out]; exact Nat.le_refl _)).mono ?_
          rintro e w5 ⟨rfl, hb5, hl5⟩
          have hc5 := hl5.2 0 x0 H0.out
          go_wp2_with (go_at_call 6; refine (namedT x0 _ hz0).mono ?_; rintro e w6 ⟨rfl, rfl⟩)
          go_ret
          exact ⟨by simp, (hb3.trans (hb4.mono hb3.size)).trans (hb5.mono (Nat.le_trans hb3.size hb4.size))⟩
        · have h2 : 2 ≤ n := by omega
          clear hone
          by_cases hk : k < 1 ∨ (n : Int) ≤ k
          · by_cases hk1 : k < 1
            · go_wp2
              go_ret
              exact ⟨rfl, hb3⟩
            · have hk2 : (n : Int) ≤ k := by omega
              go_wp2
              go_ret
              exact ⟨rfl, hb3⟩
          · obtain ⟨q, rfl⟩ := Int.eq_ofNat_of_zero_le (show 0 ≤ k by omega)
            have hq1 : 0 < q := by omega
            have hq2 : q < n := by omega
            clear hk
            obtain ⟨x1, hx1⟩ : ∃ s, xs[n - 1]? = some s := ⟨xs[n - 1]'(by rw [Hx.out]; omega), by simp⟩
            have H1 : Hid (xs[n - 1]? = some x1) := hx1
            clear hx1
            have hz1 : x1.size ≤ 1048576 := Nat.le_trans (Plain.tot_mem xs x1 (List.mem_of_getElem? H1.out)) Ht.out
            go_wp2_with fail
            refine (zz_cut w1.heap.size 0 n n xs (Plain.msgB xs) w3 hl Ht (msg_all xs n Hx.out) (by omega) (by omega) (by rw [Hx.out]; show 0 + n ≤ n; omega)).mono ?_
            rintro e w4 ⟨rfl, hb4, hl4⟩
            go_wp2_with fail
            refine (zz_cut w1.heap.size 0 1 n xs (Plain.nmd x0) w4 hl4 Ht (msg_at xs 0 x0 H0.out) (by omega) (by omega) (by rw [Hx.out]; show 0 + 1 ≤ n; omega)).mono ?_
            rintro e w5 ⟨rfl, hb5, hl5⟩
            have hc5 := hl5.2 0 x0 H0.out
            go_wp2_with (go_at_call 6; refine (namedT x0 _ hz0).mono ?_; rintro e w6 ⟨rfl, rfl⟩)
            have e1 : n - (n - 1) = 1 := by omega
            refine (zz_cut w1.heap.size (n - 1) (n - (n - 1)) (n - (n - 1)) xs (Plain.nmd x1) w6 hl5 Ht (by rw [e1]; exact msg_at xs (n - 1) x1 H1.out) (by omega) (by omega) (by rw [Hx.out, e1]; show n - 1 + 1 ≤ n; omega)).mono ?_
            rintro e w7 ⟨rfl, hb7, hl7⟩
            clear e1
            obtain ⟨L, HL⟩ : ∃ L, Hid (Plain.msgB ((xs.drop 0).take q) = L) := ⟨_, rfl⟩
            obtain ⟨R, HR⟩ : ∃ R, Hid (Plain.msgB ((xs.drop q).take (n - q)) = R) := ⟨_, rfl⟩
            obtain ⟨M, HM⟩ : ∃ M, Hid (Plain.msgB xs = M) := ⟨_, rfl⟩
            have sL : L.size ≤ 2097152 := by rw [← HL.out]; exact msgB_size _ (Nat.le_trans (tot_cut xs 0 q) Ht.out)
            have sR : R.size ≤ 2097152 := by rw [← HR.out]; exact msgB_size _ (Nat.le_trans (tot_cut xs q (n - q)) Ht.out)
            have HE : Hid (M = L ++ { data := #[32, 111, 114, 32] } ++ R) := by
              show _ = _
              rw [← HL.out, ← HR.out, ← HM.out, List.drop_zero, List.take_of_length_le (l := xs.drop q) (by rw [List.length_drop, Hx.out]; exact Nat.le_refl _)]
              exact msgB_cut xs q hq1 (by rw [Hx.out]; exact hq2)
            rw [HM.out]
            go_wp2_with fail
            refine (zz_cut w1.heap.size 0 q n xs L w7 hl7 Ht HL (by omega) (by omega) (by rw [Hx.out]; show 0 + q ≤ n; omega)).mono ?_
            rintro e w8 ⟨rfl, hb8, hl8⟩
            go_wp2_with fail
            refine (zz_cut w1.heap.size q (n - q) (n - q) xs R w8 hl8 Ht HR (by omega) (by omega) (by rw [Hx.out]; show q + (n - q) ≤ n; omega)).mono ?_
            rintro e w9 ⟨rfl, hb9, hl9⟩
            have hc9 := hl9.2 (n - 1) x1 H1.out
            go_wp2_with (go_at_call 6; refine (namedT x1 _ hz1).mono ?_; rintro e w10 ⟨rfl, rfl⟩)
            go_ret
            refine ⟨ret_bool ?_, ((((hb3.trans (hb4.mono hb3.size)).trans (hb5.mono ?_)).trans (hb7.mono ?_)).trans (hb8.mono ?_)).trans (hb9.mono ?_)⟩
            · rw [HE.out]; simp
            · have := hb3.size; have := hb4.size; omega
            · have := hb3.size; have := hb4.size; have := hb5.size; omega
            · have := hb3.size; have := hb4.size; have := hb5.size; have := hb7.size; omega
            · have := hb3.size; have := hb4.size; have := hb5.size; have := hb7.size; have := hb8.size; omega
end Go.Proofs.Qxb6621692a
