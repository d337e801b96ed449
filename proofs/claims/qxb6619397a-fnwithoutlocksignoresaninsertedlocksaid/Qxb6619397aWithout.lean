/-
  Seat b6619397a: the walk of withoutLocks (function 11).
-/
import Derived.Test.Qxb6619397aSmall
import Derived.Test.Qxb6619397aOwn
import Derived.Deep.RegionHeld3
import Derived.Deep.DrawnRows
import Derived.Deep.DeepCutAuto
import Derived.Laws.MakeOwn
import Derived.Deep.Light
import Derived.Deep.LoopGhost
import Derived.Deep.RegionLaw
namespace Go.Proofs.Qxb6619397a
open Go.RowKit


theorem info3 : (Try.prog.info? 3).map (fun i => (i.zero, i.size, i.bytes)) = some (some (.int .i64 0), 1, 8) := by kernel_rfl
theorem info33 : (Try.prog.info? 33).map (fun i => (i.zero, i.size, i.bytes)) = some (some (.int .u8 0), 1, 1) := by kernel_rfl
theorem info34 : (Try.prog.info? 34).map (fun i => (i.zero, i.size, i.bytes)) = some (some (.string ByteArray.empty), 1, 16) := by kernel_rfl

/-- A new row of n ints. -/
def row3 (n : Nat) : Obj := .cells (madeCells #[.int .i64 0] n) 3
/-- A new row of n kinds. -/
def row33 (n : Nat) : Obj := .cells (madeCells #[.int .u8 0] n) 33

theorem make24 (n : Nat) (hn : n ≤ 1048576) (w : World) : (Instr.makeSlice 24 (.int .i64 0) (.int .i64 n)).run Try.prog w = .ok (.slice (some ⟨w.heap.size, 0, none⟩) 0 n) (w.alloc (row3 n)) := by
  obtain ⟨i0, hi, hz0, hz1, hz2⟩ := info_parts info3
  have h := run_make (P := Try.prog) w 24 3 i0 (.int .i64 0) Try.underlying24 hi hz0 .i64 .i64 0 n (by omega) (by omega) (by rw [hz2]; omega) (by omega)
  rw [h, hz1]
  have e : (Value.int .i64 0).cells = #[Value.int .i64 0] := rfl
  simp [row3, e]
theorem make27 (n : Nat) (hn : n ≤ 1048576) (w : World) : (Instr.makeSlice 27 (.int .i64 0) (.int .i64 n)).run Try.prog w = .ok (.slice (some ⟨w.heap.size, 0, none⟩) 0 n) (w.alloc (row33 n)) := by
  obtain ⟨i0, hi, hz0, hz1, hz2⟩ := info_parts info33
  have h := run_make (P := Try.prog) w 27 33 i0 (.int .u8 0) Try.underlying27 hi hz0 .i64 .i64 0 n (by omega) (by omega) (by rw [hz2]; omega) (by omega)
  rw [h, hz1]
  have e : (Value.int .u8 0).cells = #[Value.int .u8 0] := rfl
  simp [row33, e]

/-- Behind the two statements that make the new numbering. -/
def Pre (W : World) (L : Nat) (items : Int) (wx : World) : Prop :=
  ∃ bX bI bA, wx.heap[W.heap.size + 1]? = some (.cells #[.slice (some ⟨W.heap.size, 0, none⟩) 0 L, .slice none 0 0, .slice (some ⟨bX, 0, none⟩) 0 L, .slice (some ⟨bI, 0, none⟩) 0 L, .int .i64 items, .slice (some ⟨bA, 0, none⟩) 0 L] 39) ∧
    Rw W.heap.size 33 W.heap.size 0 L [] wx ∧ Rw W.heap.size 3 bX 0 L [] wx ∧ Rw W.heap.size 3 bI 0 L [] wx ∧ Rw W.heap.size 3 bA 0 L [] wx ∧ bX ≠ bI ∧ bX ≠ bA ∧ bI ≠ bA ∧ Below W.heap.size W wx

theorem made_len (z : Value) (n : Nat) : (madeCells #[z] n).size = n := by
  have := congrArg List.length (toList_madeCells_one z n)
  simpa using this

theorem rw_new {B b L e : Nat} {z : Value} {wx : World} (hL : L ≤ 1048576) (hB : B ≤ b) (h : wx.heap[b]? = some (.cells (madeCells #[z] L) e)) : Rw B e b 0 L [] wx :=
  ⟨by simp, .inr ⟨b, L, _, rfl, hB, h, Nat.zero_le _, by unfold maxLen; omega, by rw [made_len]; omega, by simp⟩⟩

theorem heap5 (H : Array Obj) (a b c d e : Obj) : (((((H.push a).push b).push c).push d).push e)[H.size]? = some a ∧ (((((H.push a).push b).push c).push d).push e)[H.size + 1]? = some b ∧ (((((H.push a).push b).push c).push d).push e)[H.size + 2]? = some c
   ∧ (((((H.push a).push b).push c).push d).push e)[H.size + 3]? = some d ∧ (((((H.push a).push b).push c).push d).push e)[H.size + 4]? = some e ∧ (∀ k, k < H.size → (((((H.push a).push b).push c).push d).push e)[k]? = H[k]?) := by
  simp only [Array.getElem?_push, Array.size_push]
  refine ⟨?_, ?_, ?_, ?_, ?_, ?_⟩
  · rw [if_neg (by omega), if_neg (by omega), if_neg (by omega), if_neg (by omega), if_pos trivial]
  · rw [if_neg (by omega), if_neg (by omega), if_neg (by omega), if_pos trivial]
  · rw [if_neg (by omega), if_neg (by omega), if_pos trivial]
  · rw [if_neg (by omega), if_pos trivial]
  · rw [if_pos trivial]
  · intro k hk
    rw [if_neg (by omega), if_neg (by omega), if_neg (by omega), if_neg (by omega), if_neg (by omega)]

/-- The five blocks, however the three makes were ordered. -/
theorem pre_of {W wx : World} {L bX bI bA : Nat} {items : Int} (hL : L ≤ 1048576)
    (h : wx.heap = ((((W.heap.push (row33 L)).push (.cells #[.slice (some ⟨W.heap.size, 0, none⟩) 0 L, .slice none 0 0, .slice (some ⟨bX, 0, none⟩) 0 L, .slice (some ⟨bI, 0, none⟩) 0 L, .int .i64 items, .slice (some ⟨bA, 0, none⟩) 0 L] 39)).push (row3 L)).push (row3 L)).push (row3 L))
    (h1 : wx.os = W.os) (h2 : wx.tape = W.tape) (h3 : wx.output = W.output)
    (hX : bX = W.heap.size + 2 ∨ bX = W.heap.size + 3 ∨ bX = W.heap.size + 4) (hI : bI = W.heap.size + 2 ∨ bI = W.heap.size + 3 ∨ bI = W.heap.size + 4) (hA : bA = W.heap.size + 2 ∨ bA = W.heap.size + 3 ∨ bA = W.heap.size + 4)
    (d1 : bX ≠ bI) (d2 : bX ≠ bA) (d3 : bI ≠ bA) : Pre W L items wx := by
  obtain ⟨e0, e1, e2, e3, e4, e5⟩ := heap5 W.heap (row33 L) (.cells #[.slice (some ⟨W.heap.size, 0, none⟩) 0 L, .slice none 0 0, .slice (some ⟨bX, 0, none⟩) 0 L, .slice (some ⟨bI, 0, none⟩) 0 L, .int .i64 items, .slice (some ⟨bA, 0, none⟩) 0 L] 39) (row3 L) (row3 L) (row3 L)
  rw [← h] at e0 e1 e2 e3 e4 e5
  have r3 : ∀ b, (b = W.heap.size + 2 ∨ b = W.heap.size + 3 ∨ b = W.heap.size + 4) → wx.heap[b]? = some (.cells (madeCells #[.int .i64 0] L) 3) := by
    intro b hb
    rcases hb with rfl | rfl | rfl
    · exact e2
    · exact e3
    · exact e4
  refine ⟨bX, bI, bA, e1, rw_new (z := .int .u8 0) hL (Nat.le_refl _) e0, rw_new hL (by omega) (r3 bX hX), rw_new hL (by omega) (r3 bI hI), rw_new hL (by omega) (r3 bA hA), d1, d2, d3, ⟨h1, h2, h3, ?_, e5⟩⟩
  rw [h]; simp; omega

/-- The kinds, the numbers and the places of the operations l, as cells. -/
def vK (ks : List Int) (l : List Nat) : List Value := l.map fun q => Value.int .u8 (ks.getD q 0)
def vZ (zs : List Int) (l : List Nat) : List Value := l.map fun q => Value.int .i64 (zs.getD q 0)
def vP (l : List Nat) : List Value := l.map fun (q : Nat) => Value.int .i64 (q : Int)
def rowR (nt : Nat) (f : Nat → Int) : List Value := (List.range nt).map fun t => Value.int .i64 (f t)
theorem vK_snoc (ks : List Int) (l : List Nat) (k : Nat) : vK ks (l ++ [k]) = vK ks l ++ [.int .u8 (ks.getD k 0)] := by simp [vK]
theorem vZ_snoc (zs : List Int) (l : List Nat) (k : Nat) : vZ zs (l ++ [k]) = vZ zs l ++ [.int .i64 (zs.getD k 0)] := by simp [vZ]
theorem vP_snoc (l : List Nat) (k : Nat) : vP (l ++ [k]) = vP l ++ [.int .i64 (k : Int)] := by simp [vP]
theorem rowR_zero (nt : Nat) : (madeCells (Value.int .i64 0).cells (nt * 1)).toList = rowR nt (fun _ => 0) := by
  have e : (Value.int .i64 0).cells = #[Value.int .i64 0] := rfl
  rw [e, toList_madeCells_one]
  apply List.ext_getElem <;> simp [rowR]
theorem rowR_congr (nt : Nat) (f g : Nat → Int) (h : ∀ t, t < nt → f t = g t) : rowR nt f = rowR nt g := by
  unfold rowR
  apply List.map_congr_left
  intro t ht
  rw [h t (List.mem_range.1 ht)]
theorem rowR_set (nt : Nat) (f : Nat → Int) (j : Nat) (v : Int) : (rowR nt f).set j (.int .i64 v) = rowR nt (fun t => if t = j then v else f t) := by
  apply List.ext_getElem
  · simp [rowR]
  · intro i h1 h2
    rw [List.getElem_set]
    simp only [rowR, List.getElem_map, List.getElem_range]
    by_cases h : j = i
    · subst h; simp
    · rw [if_neg h, if_neg (fun e => h e.symm)]
theorem rowR_at (nt : Nat) (f : Nat → Int) (j : Nat) (h : j < nt) : (rowR nt f)[j]? = some (.int .i64 (f j)) := by simp [rowR, h]

theorem f2_step (ks xs : List Int) (nt k : Nat) (hl : Plain.lock (ks.getD k 0) = false) (x : Nat) (hx : xs.getD k 0 = (x : Int)) :
    (rowR nt (Plain.f2 ks xs k)).set x (.int .i64 1) = rowR nt (Plain.f2 ks xs (k + 1)) := by
  rw [rowR_set]
  apply rowR_congr
  intro t _
  unfold Plain.f2
  rw [Plain.used_stay ks xs k t hl, hx]
  by_cases h : t = x
  · subst h; simp
  · rw [if_neg h]
    have : ((x : Int) == (t : Int)) = false := beq_eq_false_iff_ne.2 (by omega)
    rw [this]; simp
theorem f2_same (ks xs : List Int) (nt k : Nat) (hl : Plain.lock (ks.getD k 0) = true) : rowR nt (Plain.f2 ks xs (k + 1)) = rowR nt (Plain.f2 ks xs k) := by
  apply rowR_congr
  intro t _
  unfold Plain.f2
  rw [Plain.used_lock ks xs k t hl]

/-- The second loop's state when k operations are done. -/
def At2 (W : World) (bX bI bA bR L nt : Nat) (items : Int) (ks xs is : List Int) (k : Nat) (w : World) : Prop :=
  Own W.heap.size (W.heap.size + 1) W.heap.size bX bI bA bR (.slice none 0 0) L (Plain.kp ks k).length (Plain.kp ks k).length (Plain.kp ks k).length (Plain.kp ks k).length 0 nt items
    (vK ks (Plain.kp ks k)) (vZ xs (Plain.kp ks k)) (vZ is (Plain.kp ks k)) (vP (Plain.kp ks k)) [] (rowR nt (Plain.f2 ks xs k)) w ∧ Below W.heap.size W w

theorem at2_start {W wc w : World} {L nt bX bI bA : Nat} {items : Int} {ks xs is : List Int}
    (st : wc.heap[W.heap.size + 1]? = some (.cells #[.slice (some ⟨W.heap.size, 0, none⟩) 0 L, .slice none 0 0, .slice (some ⟨bX, 0, none⟩) 0 L, .slice (some ⟨bI, 0, none⟩) 0 L, .int .i64 items, .slice (some ⟨bA, 0, none⟩) 0 L] 39))
    (rK : Rw W.heap.size 33 W.heap.size 0 L [] wc) (rX : Rw W.heap.size 3 bX 0 L [] wc) (rI : Rw W.heap.size 3 bI 0 L [] wc) (rA : Rw W.heap.size 3 bA 0 L [] wc) (d1 : bX ≠ bI) (d2 : bX ≠ bA) (d3 : bI ≠ bA) (hB : Below W.heap.size W wc)
    (hR : w.ownsRow W.heap.size 3 1 (.slice (some ⟨wc.heap.size, 0, none⟩) nt nt) nt (madeCells (Value.int .i64 0).cells (nt * 1)).toList) (hg : wc.grownBy w none) :
    At2 W bX bI bA wc.heap.size L nt items ks xs is 0 w := by
  rw [rowR_zero] at hR
  have e : rowR nt (Plain.f2 ks xs 0) = rowR nt (fun _ => 0) := rowR_congr _ _ _ (fun t _ => by simp [Plain.f2, Plain.used, Plain.kp])
  unfold At2
  rw [e]
  refine ⟨⟨st_kept st hg (by simp), rK.kept hg (by simp), rX.kept hg (by simp), rI.kept hg (by simp), rA.kept hg (by simp), hR, World.ownsRow_nil _ _ _ _, d1, d2, d3, ?_, ?_, ?_, by omega⟩, hB.grown hg hB.size (by intro k h; cases h)⟩
  · have := rX.lt; omega
  · have := rI.lt; omega
  · have := rA.lt; omega

theorem at2_lock {W w : World} {bX bI bA bR L nt k : Nat} {items : Int} {ks xs is : List Int} (h : At2 W bX bI bA bR L nt items ks xs is k w) (hl : Plain.lock (ks.getD k 0) = true) :
    At2 W bX bI bA bR L nt items ks xs is (k + 1) w := by
  unfold At2 at *
  rw [Plain.kp_lock ks k hl, f2_same ks xs nt k hl]
  exact h

theorem at2_stay {W w : World} {bX bI bA bR L nt k : Nat} {items : Int} {ks xs is : List Int} (x : Nat) (hx : xs.getD k 0 = (x : Int)) (hl : Plain.lock (ks.getD k 0) = false)
    (h : Own W.heap.size (W.heap.size + 1) W.heap.size bX bI bA bR (.slice none 0 0) L ((Plain.kp ks k).length + 1) ((Plain.kp ks k).length + 1) ((Plain.kp ks k).length + 1) ((Plain.kp ks k).length + 1) 0 nt items
    (vK ks (Plain.kp ks k) ++ [.int .u8 (ks.getD k 0)]) (vZ xs (Plain.kp ks k) ++ [.int .i64 (xs.getD k 0)]) (vZ is (Plain.kp ks k) ++ [.int .i64 (is.getD k 0)]) (vP (Plain.kp ks k) ++ [.int .i64 (k : Int)]) [] ((rowR nt (Plain.f2 ks xs k)).set x (.int .i64 1)) w)
    (hb : Below W.heap.size W w) : At2 W bX bI bA bR L nt items ks xs is (k + 1) w := by
  unfold At2
  rw [Plain.kp_stay ks k hl, ← f2_step ks xs nt k hl x hx, vK_snoc, vZ_snoc, vZ_snoc, vP_snoc, List.length_append]
  exact ⟨h, hb⟩

/-- The transactions l, as cells. -/
def vS (ts : List ByteArray) (l : List Nat) : List Value := l.map fun t => Value.string (ts.getD t ByteArray.empty)
theorem vS_snoc (ts : List ByteArray) (l : List Nat) (k : Nat) : vS ts (l ++ [k]) = vS ts l ++ [.string (ts.getD k ByteArray.empty)] := by simp [vS]

/-- The third loop's state when k transactions are done. -/
def At3 (W : World) (bX bI bA bR L nt : Nat) (items : Int) (ks xs is : List Int) (ts : List ByteArray) (n k : Nat) (w : World) : Prop :=
  ∃ T, Own W.heap.size (W.heap.size + 1) W.heap.size bX bI bA bR T L L L L L (Plain.us ks xs n k).length nt items
    (vK ks (Plain.kp ks n)) (vZ xs (Plain.kp ks n)) (vZ is (Plain.kp ks n)) (vP (Plain.kp ks n)) (vS ts (Plain.us ks xs n k)) (rowR nt (Plain.f3 ks xs n k)) w ∧ Below W.heap.size W w

theorem at3_start {W w : World} {bX bI bA bR L nt n : Nat} {items : Int} {ks xs is : List Int} (ts : List ByteArray) (hL : L = (Plain.kp ks n).length) (h : At2 W bX bI bA bR L nt items ks xs is n w) :
    At3 W bX bI bA bR L nt items ks xs is ts n 0 w := by
  obtain ⟨h1, h2⟩ := h
  refine ⟨.slice none 0 0, ?_, h2⟩
  have e : rowR nt (Plain.f3 ks xs n 0) = rowR nt (Plain.f2 ks xs n) := rowR_congr _ _ _ (fun t _ => Plain.f3_zero ks xs n t)
  rw [e]
  rw [← hL] at h1
  exact h1

theorem at3_no {W w : World} {bX bI bA bR L nt n k : Nat} {items : Int} {ks xs is : List Int} {ts : List ByteArray} (h : At3 W bX bI bA bR L nt items ks xs is ts n k w) (hu : Plain.used ks xs n k = false) :
    At3 W bX bI bA bR L nt items ks xs is ts n (k + 1) w := by
  unfold At3 at *
  rw [Plain.us_no ks xs n k hu]
  have e : rowR nt (Plain.f3 ks xs n (k + 1)) = rowR nt (Plain.f3 ks xs n k) := by
    apply rowR_congr
    intro t _
    unfold Plain.f3
    by_cases h : t = k
    · subst h; rw [hu]; simp
    · have : t < k + 1 ↔ t < k := by omega
      simp only [this]
  rw [e]
  exact h

theorem at3_yes {W w : World} {bX bI bA bR L nt n k : Nat} {items : Int} {ks xs is : List Int} {ts : List ByteArray} (hu : Plain.used ks xs n k = true) (T : Value)
    (h : Own W.heap.size (W.heap.size + 1) W.heap.size bX bI bA bR T L L L L L ((Plain.us ks xs n k).length + 1) nt items
      (vK ks (Plain.kp ks n)) (vZ xs (Plain.kp ks n)) (vZ is (Plain.kp ks n)) (vP (Plain.kp ks n)) (vS ts (Plain.us ks xs n k) ++ [.string (ts.getD k ByteArray.empty)])
      ((rowR nt (Plain.f3 ks xs n k)).set k (.int .i64 ((Plain.us ks xs n k).length + 1 : Nat))) w) (hb : Below W.heap.size W w) :
    At3 W bX bI bA bR L nt items ks xs is ts n (k + 1) w := by
  refine ⟨T, ?_, hb⟩
  rw [Plain.us_yes ks xs n k hu, vS_snoc, List.length_append]
  rw [rowR_set] at h
  have e : rowR nt (Plain.f3 ks xs n (k + 1)) = rowR nt (fun t => if t = k then (((Plain.us ks xs n k).length + 1 : Nat) : Int) else Plain.f3 ks xs n k t) := by
    apply rowR_congr
    intro t _
    unfold Plain.f3
    by_cases ht : t = k
    · subst ht; rw [hu, if_pos rfl, if_pos (by omega), if_pos rfl, Plain.rk_yes ks xs n t hu]
    · have : t < k + 1 ↔ t < k := by omega
      rw [if_neg ht]; simp only [this]
  rw [e]
  exact h

/-- The new transaction numbers when the fourth loop has done k of them. -/
def rowX (ks xs : List Int) (n k : Nat) : List Value :=
  (List.range (Plain.kp ks n).length).map fun j =>
    Value.int .i64 (if j < k then (Plain.rk ks xs n (xs.getD ((Plain.kp ks n).getD j 0) 0).toNat : Int) - 1 else xs.getD ((Plain.kp ks n).getD j 0) 0)

theorem rowX_zero (ks xs : List Int) (n : Nat) : vZ xs (Plain.kp ks n) = rowX ks xs n 0 := by
  apply List.ext_getElem
  · simp [vZ, rowX]
  · intro i h1 h2
    have hi : i < (Plain.kp ks n).length := by simpa [vZ] using h1
    simp [vZ, rowX, hi]

theorem rowX_at (ks xs : List Int) (n k : Nat) (h : k < (Plain.kp ks n).length) : (rowX ks xs n k)[k]? = some (.int .i64 (xs.getD ((Plain.kp ks n).getD k 0) 0)) := by
  simp [rowX, h]

theorem rowX_set (ks xs : List Int) (n k : Nat) (v : Int) (hv : v = (Plain.rk ks xs n (xs.getD ((Plain.kp ks n).getD k 0) 0).toNat : Int) - 1) : (rowX ks xs n k).set k (.int .i64 v) = rowX ks xs n (k + 1) := by
  apply List.ext_getElem
  · simp [rowX]
  · intro i h1 h2
    rw [List.getElem_set]
    simp only [rowX, List.getElem_map, List.getElem_range]
    by_cases hk : k = i
    · subst hk; rw [if_pos rfl, if_pos (by omega), hv]
    · rw [if_neg hk]
      by_cases h' : i < k
      · rw [if_pos h', if_pos (by omega)]
      · rw [if_neg h', if_neg (by omega)]

/-- The fourth loop's state. -/
def At4 (W : World) (bX bI bA bR L nt : Nat) (items : Int) (ks xs is : List Int) (ts : List ByteArray) (n k : Nat) (w : World) : Prop :=
  ∃ T, Own W.heap.size (W.heap.size + 1) W.heap.size bX bI bA bR T L L L L L (Plain.us ks xs n nt).length nt items
    (vK ks (Plain.kp ks n)) (rowX ks xs n k) (vZ is (Plain.kp ks n)) (vP (Plain.kp ks n)) (vS ts (Plain.us ks xs n nt)) (rowR nt (Plain.f3 ks xs n nt)) w ∧ Below W.heap.size W w

theorem at4_start {W w : World} {bX bI bA bR L nt n : Nat} {items : Int} {ks xs is : List Int} {ts : List ByteArray} (h : At3 W bX bI bA bR L nt items ks xs is ts n nt w) :
    At4 W bX bI bA bR L nt items ks xs is ts n 0 w := by
  unfold At3 at h
  unfold At4
  rw [rowX_zero] at h
  exact h

/-- A row's cell behind a store into another block. -/
theorem row_cell {w1 : World} {a : Addr} {u : Value} {B e b n L j : Nat} {vs : List Value} (h : Rw B e b n L vs (w1.setCell a u)) (hj : j < n) (hne : a.block ≠ b) : ∃ v, w1.cell? ⟨b, j, none⟩ = some v := by
  have hl := h.len
  have hc := World.ownsRow.cellAt h j (by omega)
  have e1 : (w1.setCell a u).heap[b]? = w1.heap[b]? := Below.heap_setCell w1 a u b hne.symm
  have e : (w1.setCell a u).cell? ⟨b, j, none⟩ = w1.cell? ⟨b, j, none⟩ := World.cell?_of_block (a := ⟨b, j, none⟩) e1
  exact ⟨vs[j]'(by omega), e.symm.trans (hc.trans (List.getElem?_eq_getElem (by omega)))⟩
theorem row_free {w1 : World} {a : Addr} {u : Value} {B e b n L : Nat} {vs : List Value} (h : Rw B e b n L vs (w1.setCell a u)) (j : Nat) (hne : a.block ≠ b) : w1.frozen? ⟨b, j, none⟩ = false := by
  have hc := World.ownsRow.frozenAt h j
  have e1 : (w1.setCell a u).heap[b]? = w1.heap[b]? := Below.heap_setCell w1 a u b hne.symm
  have e : (w1.setCell a u).frozen? ⟨b, j, none⟩ = w1.frozen? ⟨b, j, none⟩ := World.frozen?_of_block (a := ⟨b, j, none⟩) e1
  exact e.symm.trans hc

/-- How withoutLocks ends where an operation is a lock's. -/
def EndsW (W : World) (L nt : Nat) (items : Int) (ks xs is : List Int) (ts : List ByteArray) (n : Nat) (e : Ending) (w' : World) : Prop :=
  e = .returned (.pointer (some ⟨W.heap.size + 1, 0, none⟩)) ∧ ∃ bX bI bA bR, At4 W bX bI bA bR L nt items ks xs is ts n L w'

set_option maxRecDepth 100000 in
set_option maxHeartbeats 4000000 in
theorem wl_some (p n nt gK oK cK gX oX cX gI oI cI cT : Nat) (aT : Option Addr) (ks xs is : List Int) (ts : List ByteArray) (items : Int) (W : World)
    (hn0 : 0 < n) (hn : n ≤ 65537) (hnt : nt ≤ 65536)
    (h0 : W.cell? ⟨p, 0, none⟩ = some (.slice (some ⟨gK, oK, none⟩) n cK)) (h1 : W.cell? ⟨p, 1, none⟩ = some (.slice aT nt cT))
    (h2 : W.cell? ⟨p, 2, none⟩ = some (.slice (some ⟨gX, oX, none⟩) n cX)) (h3 : W.cell? ⟨p, 3, none⟩ = some (.slice (some ⟨gI, oI, none⟩) n cI))
    (h4 : W.cell? ⟨p, 4, none⟩ = some (.int .i64 items)) (h5 : W.cell? ⟨p, 5, none⟩ = some (.slice none 0 0))
    (HK : Hid (∀ j, j < n → W.cell? ⟨gK, oK + j, none⟩ = some (.int .u8 (ks.getD j 0))))
    (HX : Hid (∀ j, j < n → W.cell? ⟨gX, oX + j, none⟩ = some (.int .i64 (xs.getD j 0))))
    (HI : Hid (∀ j, j < n → W.cell? ⟨gI, oI + j, none⟩ = some (.int .i64 (is.getD j 0))))
    (HT : Hid (∀ j, j < nt → ∃ g off, aT = some ⟨g, off, none⟩ ∧ W.cell? ⟨g, off + j, none⟩ = some (.string (ts.getD j ByteArray.empty))))
    (HR : Hid (∀ j, j < n → Plain.lock (ks.getD j 0) = false → 0 ≤ xs.getD j 0 ∧ xs.getD j 0 < nt))
    (hlt : (Plain.kp ks n).length < n) :
    Calls Try.prog 11 #[.pointer (some ⟨p, 0, none⟩)] W fun e w' => EndsW W (Plain.kp ks n).length nt items ks xs is ts n e w' := by
  go_enter Try.func11, Try.ntmps11
  go_wp2
  go_loop [3, 19] (fun v i => ∃ k : Nat, k ≤ n ∧ i = .int .i64 k ∧ v = .int .i64 (Plain.kp ks k).length) (fun _ i => n - (intOf i).toNat)
  case atStart => exact ⟨0, Nat.zero_le _, rfl, rfl⟩
  case round =>
    obtain ⟨k, hk, rfl, rfl⟩ := hrel
    have hle := Plain.kp_len_le ks k
    by_cases hkn : k < n
    · have hc := HK.out k hkn
      have HY := hid (Plain.kp_stay ks k)
      have HN := hid (Plain.kp_lock ks k)
      obtain ⟨c, hcc⟩ : ∃ c, c = ks.getD k 0 := ⟨_, rfl⟩
      rw [← hcc] at hc HY HN
      clear hcc
      cases hl : Plain.lock c with
      | true =>
        go_wp2_with (go_at_call 12; refine (locking c _).mono ?_; rintro e w1 ⟨rfl, rfl⟩; rw [hl])
        go_round
        case rel => exact ⟨k + 1, by omega, by go_num, by rw [HN.out hl]⟩
        case measure => simp [intOf]; omega
      | false =>
        go_wp2_with (go_at_call 12; refine (locking c _).mono ?_; rintro e w1 ⟨rfl, rfl⟩; rw [hl])
        go_round
        case rel => exact ⟨k + 1, by omega, by go_num, by rw [HY.out hl]; simp⟩
        case measure => simp [intOf]; omega
    · have ekn : k = n := by omega
      subst ekn
      have hne : (((Plain.kp ks k).length : Int) == (k : Int)) = false := beq_eq_false_iff_ne.2 (by omega)
      obtain ⟨L, hL⟩ : ∃ L, L = (Plain.kp ks k).length := ⟨_, rfl⟩
      rw [← hL] at hne hlt hle ⊢
      have HL := hid hL
      clear hL
      go_wp2
      have hmk := fun w => make27 L (by omega) w
      go_region_held3 (fun w' => w'.cell? ⟨p, 4, none⟩ = some (.int .i64 items)) (go_keep) (fail)
      clear hmk
      go_upto_region 11 with fail
      go_cut [] (fun wx => Pre W L items wx)
      case first =>
        have hmk := fun w => make24 L (by omega) w
        go_region_held3 (fun _ => True) (trivial) (fail)
        all_goals (go_wp2_with fail; go_meet)
        all_goals exact pre_of (by omega) rfl rfl rfl rfl (by omega) (by omega) (by omega) (by omega) (by omega) (by omega)
      case rest =>
      obtain ⟨bX, bI, bA, st, rK, rX, rI, rA, d1, d2, d3, hB⟩ := hcut
      have hp : p < W.heap.size := World.block_lt_of_cell? _ _ h0
      obtain ⟨i0, hi, hz0, hz1, hz2⟩ := info_parts info3
      obtain ⟨i33, hi33, hz330, hz331, hz332⟩ := info_parts info33
      have hs1 : W.heap.size ≤ wc.heap.size := hB.size
      have g1 : wc.cell? ⟨p, 1, none⟩ = some (.slice aT nt cT) := (hB.cell (p := ⟨p, 1, none⟩) hp).trans h1
      have g0 : ∀ wx, wc.grownBy wx none → wx.cell? ⟨p, 0, none⟩ = some (.slice (some ⟨gK, oK, none⟩) k cK) := fun wx hx => ((Below.refl W.heap.size wc).grown hx hs1 (by intro k h; cases h) |>.cell (p := ⟨p, 0, none⟩) hp).trans ((hB.cell (p := ⟨p, 0, none⟩) hp).trans h0)
      go_wp2_with (at_make; refine wpList_make_full _ rfl (.tmp 64) (.tmp 64) 24 rfl W.heap.size 3 i0 (.int .i64 0) 1 Try.underlying24 hi hz0 hz1 _ _ _ _ nt rfl rfl rfl rfl (by rw [hz2]; omega) (by unfold maxLen; omega) hs1 ?_; intro w2 hown hg; have g02 := g0 w2 hg)
      have hA2 : At2 W bX bI bA wc.heap.size L nt items ks xs is 0 w2 := at2_start st rK rX rI rA d1 d2 d3 hB hown hg
      generalize wc.heap.size = bR at *
      clear st rK rX rI rA d1 d2 d3 hB hown hg hs1 g1 g0 g02
      go_loopg [71] k (fun g i wr => ∃ j : Nat, Hid (g + j = k) ∧ j ≤ k ∧ i = .int .i64 j ∧ At2 W bX bI bA bR L nt items ks xs is j wr)
      case atStart => exact ⟨0, rfl, Nat.zero_le _, rfl, hA2⟩
      case round =>
        clear hA2
        obtain ⟨j, HG, hj, rfl, hAt⟩ := hrel
        by_cases hjk : j < k
        · skip
          have hb := hAt.2
          have ck : wr.cell? ⟨gK, oK + j, none⟩ = some (.int .u8 (ks.getD j 0)) := (hb.cell (World.block_lt_of_cell? _ _ (HK.out j hjk))).trans (HK.out j hjk)
          cases hl : Plain.lock (ks.getD j 0) with
          | true =>
            have HS := hid (at2_lock hAt hl)
            obtain ⟨c, hc⟩ : ∃ c, c = ks.getD j 0 := ⟨_, rfl⟩
            rw [← hc] at ck hl
            clear hc hAt
            go_wp2_with (go_at_call 12; refine (locking c _).mono ?_; rintro e w1 ⟨rfl, hw1⟩; obtain rfl := hw1.symm; rw [hl])
            go_roundg (k - (j + 1))
            case measure => have := HG.out; omega
            case rel => exact ⟨j + 1, by show _ = _; omega, by omega, by go_num, HS.out⟩
          | false =>
            have hroom := Plain.kp_room ks j k hjk hl
            rw [← HL.out] at hroom
            obtain ⟨hx0, hx1⟩ := HR.out j hjk hl
            obtain ⟨x, hx⟩ := Int.eq_ofNat_of_zero_le hx0
            have HS := hid (fun w => at2_stay (W := W) (w := w) (bX := bX) (bI := bI) (bA := bA) (bR := bR) (L := L) (nt := nt) (k := j) (items := items) (ks := ks) (xs := xs) (is := is) x hx hl)
            have O := hAt.1
            have cxW := HX.out j hjk
            have ciW := HI.out j hjk
            rw [hx] at cxW hx1 HS
            generalize (Plain.kp ks j).length = m at *
            generalize vK ks (Plain.kp ks j) = LK at *
            generalize vZ xs (Plain.kp ks j) = LX at *
            generalize vZ is (Plain.kp ks j) = LI at *
            generalize vP (Plain.kp ks j) = LA at *
            generalize rowR nt (Plain.f2 ks xs j) = LR at *
            generalize ks.getD j 0 = c at *
            generalize is.getD j 0 = y at *
            clear hAt hx hx0
            have OO := hid O
            have q0 : wr.cell? ⟨W.heap.size + 1, 0, none⟩ = some (.slice (some ⟨W.heap.size, 0, none⟩) m L) := cell_st O.st
            have r0 : wr.frozen? ⟨W.heap.size + 1, 0, none⟩ = false := free_st O.st
            have OK := hid O.K
            clear O
            go_wp2_with (first | (go_at_call 12; refine (locking c _).mono ?_; rintro e w1 ⟨rfl, hw1⟩; obtain rfl := hw1.symm; rw [hl]) | (at_builtin; refine wpList_append_fits _ rfl (.tmp 82) (.tmp 84) 27 rfl W.heap.size 33 i33 1 Try.underlying27 hi33 hz331 W.heap.size m L LK rfl (OK.out.alloc _) ⟨wr.heap.size, 0, none⟩ 1 1 [.int .u8 c] rfl rfl (cell_one_new _ _ _) (by intro u hu; simp at hu; subst hu; rfl) (by omega) ?_; intro w1 ho hg; have S1 := hid (OO.out.stepK hb (World.grownBy_alloc wr _ none) (.int .u8 c) ho hg); have q1 := S1.out.2.2.1; have r1 := S1.out.2.2.2.1))
            obtain ⟨O1, hb1, _⟩ := S1.out
            clear S1 q1 r1 q0 r0 ho hg OK OO hb ck
            generalize w1.setCell { block := W.heap.size + 1, off := 0 } (Value.slice (some { block := W.heap.size, off := 0 }) (m + 1) L) = wa at *
            -- plain.txn = append(plain.txn, n.txn[q])
            have x1 : wa.cell? ⟨W.heap.size + 1, 2, none⟩ = some (.slice (some ⟨bX, 0, none⟩) m L) := cell_st O1.st
            have x2 : wa.cell? ⟨p, 2, none⟩ = some (.slice (some ⟨gX, oX, none⟩) k cX) := (hb1.cell (p := ⟨p, 2, none⟩) hp).trans h2
            have x3 : wa.cell? ⟨gX, oX + j, none⟩ = some (.int .i64 x) := (hb1.cell (World.block_lt_of_cell? _ _ cxW)).trans cxW
            have j0 : (0 : Int) ≤ (j : Int) := by omega
            have j1 : (j : Int) < (k : Int) := by omega
            have OX := hid O1.X
            have OO := hid O1
            clear O1
            have x4 : ∀ o, (wa.alloc o).cell? ⟨W.heap.size + 1, 2, none⟩ = some (.slice (some ⟨bX, 0, none⟩) m L) := fun o => cell_st (st_kept OO.out.st (World.grownBy_alloc wa o none) (by simp))
            go_cut [] (fun wx => Own W.heap.size (W.heap.size + 1) W.heap.size bX bI bA bR (.slice none 0 0) L (m + 1) (m + 1) m m 0 nt items (LK ++ [.int .u8 c]) (LX ++ [.int .i64 x]) LI LA [] LR wx ∧ Below W.heap.size W wx)
            case first =>
              go_region_law ((refine step_append_fits _ (by rfl) _ _ _ (by rfl) W.heap.size 3 i0 1 Try.underlying24 hi hz1 bX m L LX (by rfl) ((OX.out.alloc _).drew) ⟨wa.heap.size, 0, none⟩ 1 1 [.int .i64 x] (by rfl) (by rfl) news_one one_int (by omega) ?_; intro w2 ho hg; have S1 := hid (OO.out.stepX hb1 (grown_new wa _) (.int .i64 x) ho hg); have s1 := S1.out.2.2.1; have r1 := S1.out.2.2.2.1))
              all_goals (go_wp2_with fail; go_meet)
              all_goals exact ⟨S1.out.1, S1.out.2.1⟩
            case rest =>
            obtain ⟨O2, hb2⟩ := hcut
            clear x1 x2 x3 x4 OX OO hb1
            -- plain.item = append(plain.item, n.item[q])
            have x1 : wc.cell? ⟨W.heap.size + 1, 3, none⟩ = some (.slice (some ⟨bI, 0, none⟩) m L) := cell_st O2.st
            have x2 : wc.cell? ⟨p, 3, none⟩ = some (.slice (some ⟨gI, oI, none⟩) k cI) := (hb2.cell (p := ⟨p, 3, none⟩) hp).trans h3
            have x3 : wc.cell? ⟨gI, oI + j, none⟩ = some (.int .i64 y) := (hb2.cell (World.block_lt_of_cell? _ _ ciW)).trans ciW
            have x4 : ∀ o, (wc.alloc o).cell? ⟨W.heap.size + 1, 3, none⟩ = some (.slice (some ⟨bI, 0, none⟩) m L) := fun o => cell_st (st_kept O2.st (World.grownBy_alloc wc o none) (by simp))
            have OX := hid O2.I
            have OO := hid O2
            clear O2
            go_wp2
            go_cut [] (fun wx => Own W.heap.size (W.heap.size + 1) W.heap.size bX bI bA bR (.slice none 0 0) L (m + 1) (m + 1) (m + 1) m 0 nt items (LK ++ [.int .u8 c]) (LX ++ [.int .i64 x]) (LI ++ [.int .i64 y]) LA [] LR wx ∧ Below W.heap.size W wx)
            case first =>
              go_region_law ((refine step_append_fits _ (by rfl) _ _ _ (by rfl) W.heap.size 3 i0 1 Try.underlying24 hi hz1 bI m L LI (by rfl) ((OX.out.alloc _).drew) ⟨wc.heap.size, 0, none⟩ 1 1 [.int .i64 y] (by rfl) (by rfl) news_one one_int (by omega) ?_; intro w2 ho hg; have S1 := hid (OO.out.stepI hb2 (grown_new wc _) (.int .i64 y) ho hg); have s1 := S1.out.2.2.1; have r1 := S1.out.2.2.2.1))
              all_goals (go_wp2_with fail; go_meet)
              all_goals exact ⟨S1.out.1, S1.out.2.1⟩
            case rest =>
            obtain ⟨O3, hb3⟩ := hcut
            clear x1 x2 x3 x4 OX OO hb2
            -- plain.at = append(plain.at, n.position(q))
            have x1 : wc.cell? ⟨W.heap.size + 1, 5, none⟩ = some (.slice (some ⟨bA, 0, none⟩) m L) := cell_st O3.st
            have x2 : wc.cell? ⟨p, 5, none⟩ = some (.slice none 0 0) := (hb3.cell (p := ⟨p, 5, none⟩) hp).trans h5
            have x4 : ∀ o, (wc.alloc o).cell? ⟨W.heap.size + 1, 5, none⟩ = some (.slice (some ⟨bA, 0, none⟩) m L) := fun o => cell_st (st_kept O3.st (World.grownBy_alloc wc o none) (by simp))
            have OX := hid O3.A
            have OO := hid O3
            clear O3
            go_wp2
            go_cut [] (fun wx => Own W.heap.size (W.heap.size + 1) W.heap.size bX bI bA bR (.slice none 0 0) L (m + 1) (m + 1) (m + 1) (m + 1) 0 nt items (LK ++ [.int .u8 c]) (LX ++ [.int .i64 x]) (LI ++ [.int .i64 y]) (LA ++ [.int .i64 j]) [] LR wx ∧ Below W.heap.size W wx)
            case first =>
              go_region_law (first | (refine step_append_fits _ (by rfl) _ _ _ (by rfl) W.heap.size 3 i0 1 Try.underlying24 hi hz1 bA m L LA (by rfl) ((OX.out.alloc _).drew) ⟨wc.heap.size, 0, none⟩ 1 1 [.int .i64 j] (by rfl) (by rfl) news_one one_int (by omega) ?_; intro w2 ho hg; have S1 := hid (OO.out.stepA hb3 (grown_new wc _) (.int .i64 j) ho hg); have s1 := S1.out.2.2.1; have r1 := S1.out.2.2.2.1) | (go_simp; go_at_call 13; refine (position p j _ (by exact x2)).mono ?_; rintro e w5 ⟨rfl, hw⟩; obtain rfl := hw.symm; dsimp only))
              all_goals (go_wp2_with fail; go_meet)
              all_goals exact ⟨S1.out.1, S1.out.2.1⟩
            case rest =>
            obtain ⟨O4, hb4⟩ := hcut
            clear x1 x2 x4 OX OO hb3
            -- renumber[n.txn[q]] = 1
            have x2 : wc.cell? ⟨p, 2, none⟩ = some (.slice (some ⟨gX, oX, none⟩) k cX) := (hb4.cell (p := ⟨p, 2, none⟩) hp).trans h2
            have x3 : wc.cell? ⟨gX, oX + j, none⟩ = some (.int .i64 x) := (hb4.cell (World.block_lt_of_cell? _ _ cxW)).trans cxW
            have hxn : x < nt := by omega
            obtain ⟨u, hu⟩ : ∃ u, wc.cell? ⟨bR, x, none⟩ = some u := by
              have hl := O4.R.len
              exact ⟨LR[x]'(by omega), (World.ownsRow.cellAt O4.R x (by omega)).trans (List.getElem?_eq_getElem (by omega))⟩
            have fu : wc.frozen? ⟨bR, x, none⟩ = false := World.ownsRow.frozenAt O4.R x
            have R := hid (HS.out _ (O4.setR x (.int .i64 1)) (hb4.setCell (p := ⟨bR, x, none⟩) O4.R.block.1 (.int .i64 1)))
            clear O4 HS hb4
            go_wp2
            go_roundg (k - (j + 1))
            case measure => have := HG.out; omega
            case rel => exact ⟨j + 1, by show _ = _; omega, by omega, by go_num, R.out⟩
        · have ejk : k = j := by omega
          obtain rfl := ejk
          have hA3 := hid (at3_start ts HL.out hAt)
          have e1 : wr.cell? ⟨p, 1, none⟩ = some (.slice aT nt cT) := (hAt.2.cell (p := ⟨p, 1, none⟩) hp).trans h1
          clear hAt HG
          go_wp2
          go_loopw [147] (fun i wy => ∃ s : Nat, s ≤ nt ∧ i = .int .i64 s ∧ At3 W bX bI bA bR L nt items ks xs is ts k s wy) (fun i _ => nt - (intOf i).toNat)
          case atStart => exact ⟨0, Nat.zero_le _, rfl, hA3.out⟩
          case round =>
            clear hA3 e1
            obtain ⟨s, hs, rfl, hAt⟩ := hrel
            by_cases hsn : s < nt
            · skip
              obtain ⟨gT, oT, rfl, hct⟩ := HT.out s hsn
              have hYes := hid (fun w T => at3_yes (W := W) (w := w) (bX := bX) (bI := bI) (bA := bA) (bR := bR) (L := L) (nt := nt) (n := k) (k := s) (items := items) (ks := ks) (xs := xs) (is := is) (ts := ts) (T := T))
              have hNo := hid (fun hu => at3_no hAt hu)
              obtain ⟨T, O, hb⟩ := hAt
              have ct : wr.cell? ⟨gT, oT + s, none⟩ = some (.string (ts.getD s ByteArray.empty)) := (hb.cell (World.block_lt_of_cell? _ _ hct)).trans hct
              have cr : wr.cell? ⟨bR, s, none⟩ = some (.int .i64 (Plain.f3 ks xs k s s)) := (World.ownsRow.cellAt O.R s (by omega)).trans (rowR_at nt _ s hsn)
              rw [Plain.f3_at] at cr
              have hul := Plain.us_len_le ks xs k s
              cases hu : Plain.used ks xs k s with
              | false =>
                rw [hu] at cr
                have R := hid (hNo.out hu)
                have cr' : wr.cell? ⟨bR, s, none⟩ = some (.int .i64 0) := cr
                clear cr hYes hNo O hb hct hu hul
                go_wp2
                go_roundw
                case rel => exact ⟨s + 1, by omega, by go_num, R.out⟩
                case measure => simp [intOf]; omega
              | true =>
                rw [hu] at cr
                have cr' : wr.cell? ⟨bR, s, none⟩ = some (.int .i64 1) := cr
                have HY := hid (fun w T => hYes.out w T hu)
                generalize ts.getD s ByteArray.empty = st at *
                generalize (Plain.us ks xs k s).length = u at *
                generalize vS ts (Plain.us ks xs k s) = LS at *
                generalize rowR nt (Plain.f3 ks xs k s) = LR at *
                generalize vK ks (Plain.kp ks k) = LK at *
                generalize vZ xs (Plain.kp ks k) = LX at *
                generalize vZ is (Plain.kp ks k) = LI at *
                generalize vP (Plain.kp ks k) = LA at *
                clear cr hYes hNo hct hu
                have q1 : wr.cell? ⟨W.heap.size + 1, 1, none⟩ = some T := cell_st O.st
                have OO := hid O
                have OT := hid O.T
                obtain ⟨i34, hi34, hz340, hz341, hz342⟩ := info_parts info34
                have hsz : W.heap.size ≤ wr.heap.size := hb.size
                clear O
                go_wp2_with (at_builtin; refine wpList_append_lies _ rfl (.tmp 161) (.tmp 163) 28 rfl W.heap.size 34 i34 (.string ByteArray.empty) 1 16 Try.underlying28 hi34 hz340 hz341 hz342 rfl (by omega) T u LS rfl (OT.out.alloc _) ⟨wr.heap.size, 0, none⟩ 1 1 [.string st] rfl rfl (cell_one_new _ _ _) one_str (by omega) (by unfold maxLen; omega) (by omega) (by simp; omega) (wr.heap.size + 1) (by simp) ?_; intro g cap w1 ho hg hat hlt2; have S1 := hid (OO.out.stepT hb (World.grownBy_alloc wr _ none) (.string st) ho hg); have s1 := S1.out.2.2.1; have r1 := S1.out.2.2.2.1; have t0 := (S1.out.1.R.ne_st S1.out.1.st (by decide)).symm; have t1 := row_cell S1.out.1.R hsn t0; have t2 := row_free S1.out.1.R s t0; obtain ⟨uu, t1⟩ := t1)
                have R := hid (HY.out _ _ (S1.out.1.setR s (.int .i64 ((u + 1 : Nat) : Int))) (S1.out.2.1.setCell (p := ⟨bR, s, none⟩) S1.out.1.R.block.1 (.int .i64 ((u + 1 : Nat) : Int))))
                go_roundw
                case rel => exact ⟨s + 1, by omega, by go_num, R.out⟩
                case measure => simp [intOf]; omega
            · have esn : nt = s := by omega
              obtain rfl := esn
              have hA4 := hid (at4_start hAt)
              obtain ⟨T, O, hb⟩ := hAt
              have q2 : wr.cell? ⟨W.heap.size + 1, 2, none⟩ = some (.slice (some ⟨bX, 0, none⟩) L L) := cell_st O.st
              clear O hb
              go_wp2
              go_loopw [181] (fun i wy => ∃ j : Nat, j ≤ L ∧ i = .int .i64 j ∧ At4 W bX bI bA bR L nt items ks xs is ts k j wy) (fun i _ => L - (intOf i).toNat)
              case atStart => exact ⟨0, Nat.zero_le _, rfl, hA4.out⟩
              case round =>
                clear hA4 q2
                obtain ⟨j, hj, rfl, hAt⟩ := hrel
                by_cases hjL : j < L
                · obtain ⟨T, O, hb⟩ := hAt
                  have hjk : j < (Plain.kp ks k).length := by rw [← HL.out]; exact hjL
                  have hmem : (Plain.kp ks k).getD j 0 ∈ Plain.kp ks k := by rw [List.getD, List.getElem?_eq_getElem hjk]; exact List.getElem_mem _
                  obtain ⟨hm1, hm2⟩ := Plain.kp_mem.1 hmem
                  obtain ⟨x0, x1⟩ := HR.out _ hm1 hm2
                  have hat := rowX_at ks xs k j hjk
                  have hset := rowX_set ks xs k j
                  generalize hxe : xs.getD ((Plain.kp ks k).getD j 0) 0 = x at *
                  obtain ⟨t, rfl⟩ := Int.eq_ofNat_of_zero_le x0
                  have hus := Plain.used_of hmem hxe
                  have hf : Plain.f3 ks xs k nt t = (Plain.rk ks xs k t : Int) := by unfold Plain.f3; rw [hus, if_pos rfl, if_pos (by omega)]
                  have hrl := Plain.rk_le ks xs k t
                  have cx : wr.cell? ⟨bX, j, none⟩ = some (.int .i64 (t : Int)) := (World.ownsRow.cellAt O.X j (by omega)).trans hat
                  have fx : wr.frozen? ⟨bX, j, none⟩ = false := World.ownsRow.frozenAt O.X j
                  have cr : wr.cell? ⟨bR, t, none⟩ = some (.int .i64 (Plain.rk ks xs k t : Int)) := ((World.ownsRow.cellAt O.R t (by omega)).trans (rowR_at nt _ t (by omega))).trans (by rw [hf])
                  have q2 : wr.cell? ⟨W.heap.size + 1, 2, none⟩ = some (.slice (some ⟨bX, 0, none⟩) L L) := cell_st O.st
                  have R : Hid (∀ v : Int, v = (Plain.rk ks xs k t : Int) - 1 → At4 W bX bI bA bR L nt items ks xs is ts k (j + 1) (wr.setCell ⟨bX, j, none⟩ (.int .i64 v)).drew) := by
                    intro v hv
                    refine ⟨T, ?_, (hb.setCell (p := ⟨bX, j, none⟩) O.X.block.1 _).drew⟩
                    have := (O.setX j (.int .i64 v)).kept0 (grown_drew _)
                    rw [hset v (by rw [hv]; simp)] at this
                    exact this
                  have nq := (O.X.ne_st O.st (by decide))
                  have nr := O.dRX
                  have tn : (t : Int) < (nt : Int) := by omega
                  have t0 : (0 : Int) ≤ (t : Int) := by omega
                  have j0 : (0 : Int) ≤ (j : Int) := by omega
                  have j1 : (j : Int) < (L : Int) := by omega
                  generalize Plain.rk ks xs k t = rr at *
                  clear O hb hat hset hxe hus hf hmem hm1 hm2 hjk
                  have k1 : ∀ v, (wr.setCell ⟨bX, j, none⟩ v).drew.cell? ⟨W.heap.size + 1, 2, none⟩ = some (.slice (some ⟨bX, 0, none⟩) L L) := fun v => (World.cell?_setCell_far wr ⟨bX, j, none⟩ ⟨W.heap.size + 1, 2, none⟩ v nq).trans q2
                  have k2 : ∀ v, (wr.setCell ⟨bX, j, none⟩ v).drew.cell? ⟨bR, t, none⟩ = some (.int .i64 (rr : Int)) := fun v => (World.cell?_setCell_far wr ⟨bX, j, none⟩ ⟨bR, t, none⟩ v nr.symm).trans cr
                  have K12 := hid (fun v => And.intro (k1 v) (k2 v))
                  have hwr : IntKind.i64.wrap ((rr : Int) - 1) = (rr : Int) - 1 := by rw [IntKind.wrap_i64]; omega
                  clear k1 k2
                  go_wp2
                  go_region_held3 (fun w' => w'.cell? ⟨W.heap.size + 1, 2, none⟩ = some (.slice (some ⟨bX, 0, none⟩) L L) ∧ w'.cell? ⟨bR, t, none⟩ = some (.int .i64 (rr : Int))) (first | exact K12.out _ | go_keep) (fail)
                  go_wp2
                  go_roundw
                  case rel => exact ⟨j + 1, by omega, by go_num, R.out _ rfl⟩
                  case measure => simp [intOf]; omega
                · have ejL : L = j := by omega
                  obtain rfl := ejL
                  go_wp2
                  go_ret
                  refine ⟨rfl, bX, bI, bA, bR, ?_⟩
                  rw [← HL.out]
                  exact hAt
end Go.Proofs.Qxb6619397a
