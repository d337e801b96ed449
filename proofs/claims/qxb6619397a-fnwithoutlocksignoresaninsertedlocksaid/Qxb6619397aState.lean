/-
  Seat b6619397a: what the walk of the law (4) keeps on its way.
-/
import Derived.Test.Qxb6619397aZz
import Derived.Test.Qxb6619397aBytes
import Derived.Laws.CopyOwn
import Derived.Deep.DeepCutAuto
namespace Go.Proofs.Qxb6619397a
open Go.RowKit

theorem info4 : (Try.prog.info? 4).map (fun i => (i.zero, i.size, i.bytes)) = some (some (.bool false), 1, 1) := by kernel_rfl

/-- The numbers as cells. -/
def cellsI (zs : List Int) (n : Nat) : List Value := (List.range n).map fun j => Value.int .i64 (zs.getD j 0)
theorem cellsI_len (zs : List Int) (n : Nat) : (cellsI zs n).length = n := by simp [cellsI]
theorem cellsI_one (zs : List Int) (n : Nat) : ∀ v ∈ cellsI zs n, v.oneCell' = true := by
  intro v hv
  obtain ⟨j, _, rfl⟩ := List.mem_map.1 hv
  rfl
theorem cellsI_at {zs : List Int} {n j : Nat} {v : Value} (h : (cellsI zs n)[j]? = some v) : j < n ∧ v = .int .i64 (zs.getD j 0) := by
  obtain ⟨hj, e⟩ := List.getElem?_eq_some_iff.1 h
  have hj' : j < n := by simpa [cellsI] using hj
  exact ⟨hj', by rw [← e]; simp [cellsI]⟩
def fresh3 (n : Nat) : List Value := List.replicate n (.int .i64 0)
theorem fresh3_len (n : Nat) : (fresh3 n).length = n := by simp [fresh3]

theorem own_block {w : World} {b g n : Nat} (h : w.ownsRow b 3 1 (.slice (some ⟨g, 0, none⟩) n n) n (madeCells (Value.int .i64 0).cells (n * 1)).toList) :
    w.heap[g]? = some (.cells (fresh3 n).toArray 3) := by
  have e : (Value.int .i64 0).cells = #[Value.int .i64 0] := rfl
  rw [e, toList_madeCells_one] at h
  obtain ⟨_, h | ⟨g', cap, cur, hv, _, hh, _, _, hs, ht⟩⟩ := h
  · cases h.1
  · simp at hv
    obtain ⟨rfl, rfl⟩ := hv
    rw [hh]
    congr 1
    have : cur.toList = fresh3 n := by
      rw [← List.take_length (l := cur.toList), Array.length_toList, hs, ht]
      simp [fresh3]
    rw [← this]

theorem splice_all (n : Nat) (zs : List Int) : splice (fresh3 n) 0 (cellsI zs n) = cellsI zs n := by
  unfold splice
  rw [cellsI_len, List.drop_eq_nil_of_le (by rw [fresh3_len]; omega)]
  simp

theorem add_at (b off j : Nat) : (⟨b, off, none⟩ : Addr).add j = ⟨b, off + j, none⟩ := by
  unfold Addr.add
  split
  · rename_i h
    have : j = 0 := by simpa using h
    subst this; rfl
  · rfl

/-- The cells to be copied, where there are some. -/
theorem src_of {w w2 : World} {a : Addr} {n : Nat} {zs : List Int} (h : Ints w .i64 (some a) n zs) (hb : Below w.heap.size w w2) :
    0 < (cellsI zs n).length → ∃ ad, some a = some ad ∧ ∀ (j : Nat) v, (cellsI zs n)[j]? = some v → w2.cell? (ad.add j) = some v := by
  intro hl
  rw [cellsI_len] at hl
  obtain ⟨g, off, ha, hc⟩ := h hl
  cases ha
  refine ⟨_, rfl, fun j v hv => ?_⟩
  obtain ⟨hj, rfl⟩ := cellsI_at hv
  rw [add_at]
  exact (hb.cell (World.block_lt_of_cell? _ _ (hc j hj))).trans (hc j hj)

theorem ints_of {w : World} {g n : Nat} {zs : List Int} (h : Hid (w.heap[g]? = some (.cells (splice (fresh3 n) 0 (cellsI zs n)).toArray 3))) : Ints w .i64 (some ⟨g, 0, none⟩) n zs := by
  have h' := h.out
  rw [splice_all] at h'
  intro _
  refine ⟨g, 0, rfl, fun j hj => ?_⟩
  simp only [World.cell?, h']
  simp [cellsI, hj]

/-- What holds of a slice when its copy is made. -/
def Cut (W wx : World) (n : Nat) (zs : List Int) (s : Value) : Prop := ∃ A c, s = .slice A n c ∧ n ≤ c ∧ Ints wx .i64 A n zs ∧ Below W.heap.size W wx

/-- Does one of the first k operations name transaction t? -/
def hit (xs : List Int) (k t : Nat) : Bool := (List.range k).any fun q => xs.getD q 0 == (t : Int)
theorem hit_succ (xs : List Int) (k t : Nat) : hit xs (k + 1) t = (hit xs k t || xs.getD k 0 == (t : Int)) := by simp [hit, List.range_succ]
theorem hit_some {xs : List Int} {k t : Nat} (h : hit xs k t = true) : ∃ q, q < k ∧ xs.getD q 0 = (t : Int) := by
  unfold hit at h
  rw [List.any_eq_true] at h
  obtain ⟨q, hq, e⟩ := h
  exact ⟨q, List.mem_range.1 hq, by simpa using e⟩
def hasR (nt : Nat) (xs : List Int) (k : Nat) : List Value := (List.range nt).map fun t => Value.bool (hit xs k t)
theorem hasR_zero (nt : Nat) (xs : List Int) : (madeCells (Value.bool false).cells (nt * 1)).toList = hasR nt xs 0 := by
  have e : (Value.bool false).cells = #[Value.bool false] := rfl
  rw [e, toList_madeCells_one]
  apply List.ext_getElem <;> simp [hasR, hit]
theorem hasR_at (nt : Nat) (xs : List Int) (k t : Nat) (h : t < nt) : (hasR nt xs k)[t]? = some (.bool (hit xs k t)) := by simp [hasR, h]
theorem hasR_set (nt : Nat) (xs : List Int) (k X : Nat) (hx : xs.getD k 0 = (X : Int)) : (hasR nt xs k).set X (.bool true) = hasR nt xs (k + 1) := by
  apply List.ext_getElem
  · simp [hasR]
  · intro i h1 h2
    rw [List.getElem_set]
    simp only [hasR, List.getElem_map, List.getElem_range, hit_succ, hx]
    by_cases h : X = i
    · subst h; simp
    · have : ((X : Int) == (i : Int)) = false := beq_eq_false_iff_ne.2 (by omega)
      rw [if_neg h, this]; simp


/-- The first m numbers of l, as cells. -/
def pre (k : IntKind) (l : List Int) (m : Nat) : List Value := (List.range m).map fun j => Value.int k (l.getD j 0)
theorem pre_succ (k : IntKind) (l : List Int) (m : Nat) : pre k l (m + 1) = pre k l m ++ [.int k (l.getD m 0)] := by simp [pre, List.range_succ]
theorem pre_at (k : IntKind) (l : List Int) (m j : Nat) (h : j < m) : (pre k l m)[j]? = some (.int k (l.getD j 0)) := by simp [pre, h]

/-- The longer schedule as far as it is built: a kinds, b transaction numbers, c items. -/
structure St (w0 : World) (N a b c : Nat) (K X I : List Int) (w : World) : Prop where
  hK : Rw w0.heap.size 33 w0.heap.size a N (pre .u8 K a) w
  hX : Rw w0.heap.size 3 (w0.heap.size + 1) b N (pre .i64 X b) w
  hI : Rw w0.heap.size 3 (w0.heap.size + 2) c N (pre .i64 I c) w
  hB : Below w0.heap.size w0 w

section
variable {w0 w w1 : World} {N a b c : Nat} {K X I : List Int}
theorem St.new (h : St w0 N a b c K X I w) (o : Obj) : St w0 N a b c K X I (w.alloc o) :=
  have g := World.grownBy_alloc w o none
  ⟨h.hK.kept g (by simp), h.hX.kept g (by simp), h.hI.kept g (by simp), h.hB.grown g h.hB.size (by intro k h; cases h)⟩
theorem St.addK (h : St w0 N a b c K X I w) {v : Int} (hv : v = K.getD a 0) (ho : w1.ownsRow w0.heap.size 33 1 (.slice (some ⟨w0.heap.size, 0, none⟩) (a + 1) N) (a + 1) (pre .u8 K a ++ [.int .u8 v])) (hg : w.grownBy w1 (some w0.heap.size)) :
    St w0 N (a + 1) b c K X I w1 := by
  subst hv
  exact ⟨by rw [pre_succ]; exact ho, h.hX.kept hg (by simp), h.hI.kept hg (by simp), h.hB.grown hg h.hB.size (by intro k e; cases e; exact Nat.le_refl _)⟩
theorem St.addX (h : St w0 N a b c K X I w) {v : Int} (hv : v = X.getD b 0) (ho : w1.ownsRow w0.heap.size 3 1 (.slice (some ⟨w0.heap.size + 1, 0, none⟩) (b + 1) N) (b + 1) (pre .i64 X b ++ [.int .i64 v])) (hg : w.grownBy w1 (some (w0.heap.size + 1))) :
    St w0 N a (b + 1) c K X I w1 := by
  subst hv
  exact ⟨h.hK.kept hg (by simp), by rw [pre_succ]; exact ho, h.hI.kept hg (by simp), h.hB.grown hg h.hB.size (by intro k e; cases e; omega)⟩
theorem St.addI (h : St w0 N a b c K X I w) {v : Int} (hv : v = I.getD c 0) (ho : w1.ownsRow w0.heap.size 3 1 (.slice (some ⟨w0.heap.size + 2, 0, none⟩) (c + 1) N) (c + 1) (pre .i64 I c ++ [.int .i64 v])) (hg : w.grownBy w1 (some (w0.heap.size + 2))) :
    St w0 N a b (c + 1) K X I w1 := by
  subst hv
  exact ⟨h.hK.kept hg (by simp), h.hX.kept hg (by simp), by rw [pre_succ]; exact ho, h.hB.grown hg h.hB.size (by intro k e; cases e; omega)⟩
theorem St.cell (h : St w0 N a b c K X I w) {p : Addr} {v : Value} (hc : w0.cell? p = some v) : w.cell? p = some v := (h.hB.cell (World.block_lt_of_cell? _ _ hc)).trans hc
theorem St.ints (h : St w0 N a a a K X I w) : Ints w .u8 (some ⟨w0.heap.size, 0, none⟩) a K ∧ Ints w .i64 (some ⟨w0.heap.size + 1, 0, none⟩) a X ∧ Ints w .i64 (some ⟨w0.heap.size + 2, 0, none⟩) a I :=
  ⟨fun _ => ⟨_, 0, rfl, fun j hj => by rw [Nat.zero_add]; exact (World.ownsRow.cellAt h.hK j (by omega)).trans (pre_at _ _ _ _ hj)⟩,
   fun _ => ⟨_, 0, rfl, fun j hj => by rw [Nat.zero_add]; exact (World.ownsRow.cellAt h.hX j (by omega)).trans (pre_at _ _ _ _ hj)⟩,
   fun _ => ⟨_, 0, rfl, fun j hj => by rw [Nat.zero_add]; exact (World.ownsRow.cellAt h.hI j (by omega)).trans (pre_at _ _ _ _ hj)⟩⟩
theorem St.start (w0 : World) (N : Nat) (hN : N ≤ 1048576) (K X I : List Int) : St w0 N 0 0 0 K X I (((w0.alloc (row33 N)).alloc (row3 N)).alloc (row3 N)) := by
  have g1 := World.grownBy_alloc w0 (row33 N) none
  have g2 := World.grownBy_alloc (w0.alloc (row33 N)) (row3 N) none
  have g3 := World.grownBy_alloc ((w0.alloc (row33 N)).alloc (row3 N)) (row3 N) none
  have s1 : (w0.alloc (row33 N)).heap.size = w0.heap.size + 1 := by simp
  have s2 : ((w0.alloc (row33 N)).alloc (row3 N)).heap.size = w0.heap.size + 2 := by simp
  have b1 := st_kept (st_kept (heap_alloc_new w0 (row33 N)) g2 (by simp)) g3 (by simp)
  have b2 := st_kept (heap_alloc_new (w0.alloc (row33 N)) (row3 N)) g3 (by simp)
  have b3 := heap_alloc_new ((w0.alloc (row33 N)).alloc (row3 N)) (row3 N)
  rw [s1] at b2
  rw [s2] at b3
  exact ⟨rw_new hN (Nat.le_refl _) b1, rw_new hN (by omega) b2, rw_new hN (by omega) b3,
    (((Below.refl _ _).alloc (Nat.le_refl _) _).alloc (by rw [s1]; omega) _).alloc (by rw [s2]; omega) _⟩
end
end Go.Proofs.Qxb6619397a
