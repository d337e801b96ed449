/-
  Seat b6619397a: THE MEMORY THAT withoutLocks MAKES, said of rows; what each of its statements does to it. No walk in it.
-/
import Derived.WalkKit
import Derived.Deep.AppendLies
namespace Go.Proofs.Qxb6619397a
open Go.RowKit

theorem hid {p : Prop} (h : p) : Hid p := h

/-- A row of the call's own that begins at the head of block b: n elements vs, room for L. -/
def Rw (B e b n L : Nat) (vs : List Value) (w : World) : Prop := w.ownsRow B e 1 (.slice (some ⟨b, 0, none⟩) n L) n vs

theorem Rw.kept {B e b n L : Nat} {vs : List Value} {w w' : World} {row : Option Nat} (h : Rw B e b n L vs w) (hg : w.grownBy w' row) (hne : some b ≠ row) : Rw B e b n L vs w' :=
  World.ownsRow.kept h hg (.inr (by simpa [Value.ownBlock] using hne))

theorem Rw.block {B e b n L : Nat} {vs : List Value} {w : World} (h : Rw B e b n L vs w) : B ≤ b ∧ ∃ cur, w.heap[b]? = some (.cells cur e (0, 0)) := by
  obtain ⟨_, h | ⟨g, cap, cur, hv, hb, hh, _⟩⟩ := h
  · cases h.1
  · simp at hv
    obtain ⟨rfl, _⟩ := hv
    exact ⟨hb, cur, hh⟩

theorem Rw.len {B e b n L : Nat} {vs : List Value} {w : World} (h : Rw B e b n L vs w) : vs.length = n := by simpa using h.1

theorem Rw.ne {B e b n L B' e' b' n' L' : Nat} {vs vs' : List Value} {w : World} (h : Rw B e b n L vs w) (h' : Rw B' e' b' n' L' vs' w) (he : e ≠ e') : b ≠ b' := by
  intro hb
  subst hb
  obtain ⟨_, cur, hc⟩ := h.block
  obtain ⟨_, cur', hc'⟩ := h'.block
  rw [hc] at hc'
  simp at hc'
  exact he hc'.2

theorem Rw.ne_st {B e b n L q t : Nat} {vs : List Value} {cs : Array Value} {w : World} (h : Rw B e b n L vs w) (h' : w.heap[q]? = some (.cells cs t (0, 0))) (he : e ≠ t) : b ≠ q := by
  intro hb
  subst hb
  obtain ⟨_, cur, hc⟩ := h.block
  rw [hc] at h'
  simp at h'
  exact he h'.2

theorem own_ne {B e b : Nat} {T : Value} {t e' : Nat} {vT : List Value} {w : World} {cs : Array Value} (h : w.ownsRow B e 1 T t vT) (h' : w.heap[b]? = some (.cells cs e' (0, 0))) (he : e ≠ e') : T.ownBlock ≠ some b := by
  intro hb
  obtain ⟨_, h | ⟨g, cap, cur, hv, _, hh, _⟩⟩ := h
  · rw [h.1] at hb; simp [Value.ownBlock] at hb
  · rw [hv] at hb
    simp [Value.ownBlock] at hb
    subst hb
    rw [hh] at h'
    simp at h'
    exact he h'.2

theorem Rw.lt {B e b n L : Nat} {vs : List Value} {w : World} (h : Rw B e b n L vs w) : b < w.heap.size := (World.ownsRow.lt h b rfl).2

theorem st_kept {q : Nat} {o : Obj} {w w' : World} {row : Option Nat} (h : w.heap[q]? = some o) (hg : w.grownBy w' row) (hne : some q ≠ row) : w'.heap[q]? = some o := by
  rw [hg.block q (lt_of_block h) hne]; exact h

theorem grown_set (w : World) (a : Addr) (u : Value) : w.grownBy (w.setCell a u) (some a.block) :=
  ⟨rfl, rfl, rfl, by simp [World.setCell], fun k _ hne => Below.heap_setCell w a u k (by intro e; exact hne (by rw [e]))⟩

theorem set_st {q i : Nat} {cs : Array Value} {t : TypeId} {w : World} (h : w.heap[q]? = some (.cells cs t (0, 0))) (u : Value) :
    (w.setCell ⟨q, i, none⟩ u).heap[q]? = some (.cells (cs.setIfInBounds i u) t (0, 0)) := by
  unfold World.setCell
  simp only [Array.getElem?_modify, if_true, h, Option.map_some]
  simp

theorem cell_st {q i : Nat} {cs : Array Value} {t : TypeId} {w : World} (h : w.heap[q]? = some (.cells cs t (0, 0))) : w.cell? ⟨q, i, none⟩ = cs[i]? := by
  simp [World.cell?, h]
theorem free_st {q i : Nat} {cs : Array Value} {t : TypeId} {w : World} (h : w.heap[q]? = some (.cells cs t (0, 0))) : w.frozen? ⟨q, i, none⟩ = false := by
  simp [World.frozen?, h]

/-- The new numbering as it lies: the struct in block q, its rows, the table of new numbers in block bR. -/
structure Own (B q bK bX bI bA bR : Nat) (T : Value) (L nK nX nI nA t nt : Nat) (items : Int) (vK vX vI vA vT vR : List Value) (w : World) : Prop where
  st : w.heap[q]? = some (.cells #[.slice (some ⟨bK, 0, none⟩) nK L, T, .slice (some ⟨bX, 0, none⟩) nX L, .slice (some ⟨bI, 0, none⟩) nI L, .int .i64 items, .slice (some ⟨bA, 0, none⟩) nA L] 39)
  K : Rw B 33 bK nK L vK w
  X : Rw B 3 bX nX L vX w
  I : Rw B 3 bI nI L vI w
  A : Rw B 3 bA nA L vA w
  R : Rw B 3 bR nt nt vR w
  T : w.ownsRow B 34 1 T t vT
  dXI : bX ≠ bI
  dXA : bX ≠ bA
  dIA : bI ≠ bA
  dRX : bR ≠ bX
  dRI : bR ≠ bI
  dRA : bR ≠ bA
  hB : B ≤ q

section
variable {B q bK bX bI bA bR : Nat} {T : Value} {L nK nX nI nA t nt : Nat} {items : Int} {vK vX vI vA vT vR : List Value} {w w0 w1 : World}

theorem Own.kept0 (h : Own B q bK bX bI bA bR T L nK nX nI nA t nt items vK vX vI vA vT vR w) (hg : w.grownBy w0 none) : Own B q bK bX bI bA bR T L nK nX nI nA t nt items vK vX vI vA vT vR w0 :=
  ⟨st_kept h.st hg (by simp), h.K.kept hg (by simp), h.X.kept hg (by simp), h.I.kept hg (by simp), h.A.kept hg (by simp), h.R.kept hg (by simp), h.T.kept hg (by
    cases hb : T.ownBlock with
    | none => exact .inl rfl
    | some b => exact .inr (by simp)), h.dXI, h.dXA, h.dIA, h.dRX, h.dRI, h.dRA, h.hB⟩

theorem own_none_or {T : Value} {row : Option Nat} {b : Nat} (e : row = some b) (h : T.ownBlock ≠ some b) : T.ownBlock = none ∨ T.ownBlock ≠ row := .inr (by rw [e]; exact h)

theorem T_kept {T : Value} {t B : Nat} {vT : List Value} {w w1 : World} {b : Nat} (h : w.ownsRow B 34 1 T t vT) (hg : w.grownBy w1 (some b)) (hne : T.ownBlock ≠ some b) : w1.ownsRow B 34 1 T t vT :=
  h.kept hg (.inr hne)

/-- plain.kind = append(plain.kind, kind). -/
theorem Own.appK (h : Own B q bK bX bI bA bR T L nK nX nI nA t nt items vK vX vI vA vT vR w) (v : Value)
    (hr : Rw B 33 bK (nK + 1) L (vK ++ [v]) w1) (hg : w.grownBy w1 (some bK)) :
    Own B q bK bX bI bA bR T L (nK + 1) nX nI nA t nt items (vK ++ [v]) vX vI vA vT vR (w1.setCell ⟨q, 0, none⟩ (.slice (some ⟨bK, 0, none⟩) (nK + 1) L)) := by
  have qK := (h.K.ne_st h.st (by decide)).symm
  have hst := st_kept h.st hg (by simpa using qK)
  have gs := grown_set w1 ⟨q, 0, none⟩ (.slice (some ⟨bK, 0, none⟩) (nK + 1) L)
  have rX := h.X.kept hg (by simpa using (h.K.ne h.X (by decide)).symm)
  have rI := h.I.kept hg (by simpa using (h.K.ne h.I (by decide)).symm)
  have rA := h.A.kept hg (by simpa using (h.K.ne h.A (by decide)).symm)
  have rR := h.R.kept hg (by simpa using (h.K.ne h.R (by decide)).symm)
  obtain ⟨_, cK, hcK⟩ := h.K.block
  have rT := T_kept h.T hg (own_ne h.T hcK (by decide))
  exact ⟨by rw [set_st hst]; rfl, hr.kept gs (by simpa using hr.ne_st hst (by decide)), rX.kept gs (by simpa using rX.ne_st hst (by decide)), rI.kept gs (by simpa using rI.ne_st hst (by decide)),
    rA.kept gs (by simpa using rA.ne_st hst (by decide)), rR.kept gs (by simpa using rR.ne_st hst (by decide)), T_kept rT gs (own_ne rT hst (by decide)), h.dXI, h.dXA, h.dIA, h.dRX, h.dRI, h.dRA, h.hB⟩

/-- plain.txn = append(plain.txn, ..). -/
theorem Own.appX (h : Own B q bK bX bI bA bR T L nK nX nI nA t nt items vK vX vI vA vT vR w) (v : Value)
    (hr : Rw B 3 bX (nX + 1) L (vX ++ [v]) w1) (hg : w.grownBy w1 (some bX)) :
    Own B q bK bX bI bA bR T L nK (nX + 1) nI nA t nt items vK (vX ++ [v]) vI vA vT vR (w1.setCell ⟨q, 2, none⟩ (.slice (some ⟨bX, 0, none⟩) (nX + 1) L)) := by
  have qX := (h.X.ne_st h.st (by decide)).symm
  have hst := st_kept h.st hg (by simpa using qX)
  have gs := grown_set w1 ⟨q, 2, none⟩ (.slice (some ⟨bX, 0, none⟩) (nX + 1) L)
  have rK := h.K.kept hg (by simpa using h.K.ne h.X (by decide))
  have rI := h.I.kept hg (by simpa using h.dXI.symm)
  have rA := h.A.kept hg (by simpa using h.dXA.symm)
  have rR := h.R.kept hg (by simpa using h.dRX)
  obtain ⟨_, cX, hcX⟩ := h.X.block
  have rT := T_kept h.T hg (own_ne h.T hcX (by decide))
  exact ⟨by rw [set_st hst]; rfl, rK.kept gs (by simpa using rK.ne_st hst (by decide)), hr.kept gs (by simpa using hr.ne_st hst (by decide)), rI.kept gs (by simpa using rI.ne_st hst (by decide)),
    rA.kept gs (by simpa using rA.ne_st hst (by decide)), rR.kept gs (by simpa using rR.ne_st hst (by decide)), T_kept rT gs (own_ne rT hst (by decide)), h.dXI, h.dXA, h.dIA, h.dRX, h.dRI, h.dRA, h.hB⟩

/-- plain.item = append(plain.item, ..). -/
theorem Own.appI (h : Own B q bK bX bI bA bR T L nK nX nI nA t nt items vK vX vI vA vT vR w) (v : Value)
    (hr : Rw B 3 bI (nI + 1) L (vI ++ [v]) w1) (hg : w.grownBy w1 (some bI)) :
    Own B q bK bX bI bA bR T L nK nX (nI + 1) nA t nt items vK vX (vI ++ [v]) vA vT vR (w1.setCell ⟨q, 3, none⟩ (.slice (some ⟨bI, 0, none⟩) (nI + 1) L)) := by
  have qI := (h.I.ne_st h.st (by decide)).symm
  have hst := st_kept h.st hg (by simpa using qI)
  have gs := grown_set w1 ⟨q, 3, none⟩ (.slice (some ⟨bI, 0, none⟩) (nI + 1) L)
  have rK := h.K.kept hg (by simpa using h.K.ne h.I (by decide))
  have rX := h.X.kept hg (by simpa using h.dXI)
  have rA := h.A.kept hg (by simpa using h.dIA.symm)
  have rR := h.R.kept hg (by simpa using h.dRI)
  obtain ⟨_, cI, hcI⟩ := h.I.block
  have rT := T_kept h.T hg (own_ne h.T hcI (by decide))
  exact ⟨by rw [set_st hst]; rfl, rK.kept gs (by simpa using rK.ne_st hst (by decide)), rX.kept gs (by simpa using rX.ne_st hst (by decide)), hr.kept gs (by simpa using hr.ne_st hst (by decide)),
    rA.kept gs (by simpa using rA.ne_st hst (by decide)), rR.kept gs (by simpa using rR.ne_st hst (by decide)), T_kept rT gs (own_ne rT hst (by decide)), h.dXI, h.dXA, h.dIA, h.dRX, h.dRI, h.dRA, h.hB⟩

/-- plain.at = append(plain.at, ..). -/
theorem Own.appA (h : Own B q bK bX bI bA bR T L nK nX nI nA t nt items vK vX vI vA vT vR w) (v : Value)
    (hr : Rw B 3 bA (nA + 1) L (vA ++ [v]) w1) (hg : w.grownBy w1 (some bA)) :
    Own B q bK bX bI bA bR T L nK nX nI (nA + 1) t nt items vK vX vI (vA ++ [v]) vT vR (w1.setCell ⟨q, 5, none⟩ (.slice (some ⟨bA, 0, none⟩) (nA + 1) L)) := by
  have qA := (h.A.ne_st h.st (by decide)).symm
  have hst := st_kept h.st hg (by simpa using qA)
  have gs := grown_set w1 ⟨q, 5, none⟩ (.slice (some ⟨bA, 0, none⟩) (nA + 1) L)
  have rK := h.K.kept hg (by simpa using h.K.ne h.A (by decide))
  have rX := h.X.kept hg (by simpa using h.dXA)
  have rI := h.I.kept hg (by simpa using h.dIA)
  have rR := h.R.kept hg (by simpa using h.dRA)
  obtain ⟨_, cA, hcA⟩ := h.A.block
  have rT := T_kept h.T hg (own_ne h.T hcA (by decide))
  exact ⟨by rw [set_st hst]; rfl, rK.kept gs (by simpa using rK.ne_st hst (by decide)), rX.kept gs (by simpa using rX.ne_st hst (by decide)), rI.kept gs (by simpa using rI.ne_st hst (by decide)),
    hr.kept gs (by simpa using hr.ne_st hst (by decide)), rR.kept gs (by simpa using rR.ne_st hst (by decide)), T_kept rT gs (own_ne rT hst (by decide)), h.dXI, h.dXA, h.dIA, h.dRX, h.dRI, h.dRA, h.hB⟩

/-- plain.txns = append(plain.txns, txn). -/
theorem Own.appT (h : Own B q bK bX bI bA bR T L nK nX nI nA t nt items vK vX vI vA vT vR w) {T' : Value} (v : Value)
    (hr : w1.ownsRow B 34 1 T' (t + 1) (vT ++ [v])) (hg : w.grownBy w1 T.ownBlock) :
    Own B q bK bX bI bA bR T' L nK nX nI nA (t + 1) nt items vK vX vI vA (vT ++ [v]) vR (w1.setCell ⟨q, 1, none⟩ T') := by
  have ne : ∀ {b e' : Nat} {cs : Array Value}, w.heap[b]? = some (.cells cs e' (0, 0)) → 34 ≠ e' → some b ≠ T.ownBlock := fun hb he => (own_ne h.T hb he).symm
  have hst := st_kept h.st hg (ne h.st (by decide))
  have gs := grown_set w1 ⟨q, 1, none⟩ T'
  obtain ⟨_, cK, hcK⟩ := h.K.block
  obtain ⟨_, cX, hcX⟩ := h.X.block
  obtain ⟨_, cI, hcI⟩ := h.I.block
  obtain ⟨_, cA, hcA⟩ := h.A.block
  obtain ⟨_, cR, hcR⟩ := h.R.block
  have rK := h.K.kept hg (ne hcK (by decide))
  have rX := h.X.kept hg (ne hcX (by decide))
  have rI := h.I.kept hg (ne hcI (by decide))
  have rA := h.A.kept hg (ne hcA (by decide))
  have rR := h.R.kept hg (ne hcR (by decide))
  exact ⟨by rw [set_st hst]; rfl, rK.kept gs (by simpa using rK.ne_st hst (by decide)), rX.kept gs (by simpa using rX.ne_st hst (by decide)), rI.kept gs (by simpa using rI.ne_st hst (by decide)),
    rA.kept gs (by simpa using rA.ne_st hst (by decide)), rR.kept gs (by simpa using rR.ne_st hst (by decide)), T_kept hr gs (own_ne hr hst (by decide)), h.dXI, h.dXA, h.dIA, h.dRX, h.dRI, h.dRA, h.hB⟩

/-- renumber[j] = u. -/
theorem Own.setR (h : Own B q bK bX bI bA bR T L nK nX nI nA t nt items vK vX vI vA vT vR w) (j : Nat) (u : Value) :
    Own B q bK bX bI bA bR T L nK nX nI nA t nt items vK vX vI vA vT (vR.set j u) (w.setCell ⟨bR, j, none⟩ u) := by
  obtain ⟨hr, hg⟩ := World.ownsRow.stored h.R j u
  obtain ⟨_, cR, hcR⟩ := h.R.block
  exact ⟨st_kept h.st hg (by simpa using (h.R.ne_st h.st (by decide)).symm), h.K.kept hg (by simpa using h.K.ne h.R (by decide)), h.X.kept hg (by simpa using h.dRX.symm), h.I.kept hg (by simpa using h.dRI.symm), h.A.kept hg (by simpa using h.dRA.symm),
    hr, T_kept h.T hg (own_ne h.T hcR (by decide)), h.dXI, h.dXA, h.dIA, h.dRX, h.dRI, h.dRA, h.hB⟩

/-- plain.txn[j] = u. -/
theorem Own.setX (h : Own B q bK bX bI bA bR T L nK nX nI nA t nt items vK vX vI vA vT vR w) (j : Nat) (u : Value) :
    Own B q bK bX bI bA bR T L nK nX nI nA t nt items vK (vX.set j u) vI vA vT vR (w.setCell ⟨bX, j, none⟩ u) := by
  obtain ⟨hr, hg⟩ := World.ownsRow.stored h.X j u
  obtain ⟨_, cX, hcX⟩ := h.X.block
  exact ⟨st_kept h.st hg (by simpa using (h.X.ne_st h.st (by decide)).symm), h.K.kept hg (by simpa using h.K.ne h.X (by decide)), hr, h.I.kept hg (by simpa using h.dXI.symm), h.A.kept hg (by simpa using h.dXA.symm),
    h.R.kept hg (by simpa using h.dRX), T_kept h.T hg (own_ne h.T hcX (by decide)), h.dXI, h.dXA, h.dIA, h.dRX, h.dRI, h.dRA, h.hB⟩
end

section
variable {W : World} {q bK bX bI bA bR : Nat} {T : Value} {L nK nX nI nA t nt : Nat} {items : Int} {vK vX vI vA vT vR : List Value} {w w0 w1 : World}

theorem Own.stepK (h : Own W.heap.size q bK bX bI bA bR T L nK nX nI nA t nt items vK vX vI vA vT vR w) (hb : Below W.heap.size W w) (h0 : w.grownBy w0 none) (v : Value)
    (ho : w1.ownsRow W.heap.size 33 1 (.slice (some ⟨bK, 0, none⟩) (nK + 1) L) (nK + 1) (vK ++ [v])) (hg : w0.grownBy w1 (some bK)) :
    Own W.heap.size q bK bX bI bA bR T L (nK + 1) nX nI nA t nt items (vK ++ [v]) vX vI vA vT vR (w1.setCell ⟨q, 0, none⟩ (.slice (some ⟨bK, 0, none⟩) (nK + 1) L)) ∧
      Below W.heap.size W (w1.setCell ⟨q, 0, none⟩ (.slice (some ⟨bK, 0, none⟩) (nK + 1) L)) ∧ w1.cell? ⟨q, 0, none⟩ = some (.slice (some ⟨bK, 0, none⟩) nK L) ∧ w1.frozen? ⟨q, 0, none⟩ = false ∧ Below W.heap.size W w1 := by
  have h' := h.kept0 h0
  have hst := st_kept h'.st hg (by simpa using (h'.K.ne_st h'.st (by decide)).symm)
  have hbB := h.K.block.1
  have hb1 : Below W.heap.size W w1 := (hb.grown h0 hb.size (by intro k h; cases h)).grown hg (Nat.le_trans hb.size h0.size) (by intro k e; cases e; exact hbB)
  exact ⟨h'.appK v ho hg, hb1.setCell (p := ⟨q, 0, none⟩) h.hB _, cell_st hst, free_st hst, hb1⟩

theorem Own.stepX (h : Own W.heap.size q bK bX bI bA bR T L nK nX nI nA t nt items vK vX vI vA vT vR w) (hb : Below W.heap.size W w) (h0 : w.grownBy w0 none) (v : Value)
    (ho : w1.ownsRow W.heap.size 3 1 (.slice (some ⟨bX, 0, none⟩) (nX + 1) L) (nX + 1) (vX ++ [v])) (hg : w0.grownBy w1 (some bX)) :
    Own W.heap.size q bK bX bI bA bR T L nK (nX + 1) nI nA t nt items vK (vX ++ [v]) vI vA vT vR (w1.setCell ⟨q, 2, none⟩ (.slice (some ⟨bX, 0, none⟩) (nX + 1) L)) ∧
      Below W.heap.size W (w1.setCell ⟨q, 2, none⟩ (.slice (some ⟨bX, 0, none⟩) (nX + 1) L)) ∧ w1.cell? ⟨q, 2, none⟩ = some (.slice (some ⟨bX, 0, none⟩) nX L) ∧ w1.frozen? ⟨q, 2, none⟩ = false ∧ Below W.heap.size W w1 := by
  have h' := h.kept0 h0
  have hst := st_kept h'.st hg (by simpa using (h'.X.ne_st h'.st (by decide)).symm)
  have hbB := h.X.block.1
  have hb1 : Below W.heap.size W w1 := (hb.grown h0 hb.size (by intro k h; cases h)).grown hg (Nat.le_trans hb.size h0.size) (by intro k e; cases e; exact hbB)
  exact ⟨h'.appX v ho hg, hb1.setCell (p := ⟨q, 2, none⟩) h.hB _, cell_st hst, free_st hst, hb1⟩

theorem Own.stepI (h : Own W.heap.size q bK bX bI bA bR T L nK nX nI nA t nt items vK vX vI vA vT vR w) (hb : Below W.heap.size W w) (h0 : w.grownBy w0 none) (v : Value)
    (ho : w1.ownsRow W.heap.size 3 1 (.slice (some ⟨bI, 0, none⟩) (nI + 1) L) (nI + 1) (vI ++ [v])) (hg : w0.grownBy w1 (some bI)) :
    Own W.heap.size q bK bX bI bA bR T L nK nX (nI + 1) nA t nt items vK vX (vI ++ [v]) vA vT vR (w1.setCell ⟨q, 3, none⟩ (.slice (some ⟨bI, 0, none⟩) (nI + 1) L)) ∧
      Below W.heap.size W (w1.setCell ⟨q, 3, none⟩ (.slice (some ⟨bI, 0, none⟩) (nI + 1) L)) ∧ w1.cell? ⟨q, 3, none⟩ = some (.slice (some ⟨bI, 0, none⟩) nI L) ∧ w1.frozen? ⟨q, 3, none⟩ = false ∧ Below W.heap.size W w1 := by
  have h' := h.kept0 h0
  have hst := st_kept h'.st hg (by simpa using (h'.I.ne_st h'.st (by decide)).symm)
  have hbB := h.I.block.1
  have hb1 : Below W.heap.size W w1 := (hb.grown h0 hb.size (by intro k h; cases h)).grown hg (Nat.le_trans hb.size h0.size) (by intro k e; cases e; exact hbB)
  exact ⟨h'.appI v ho hg, hb1.setCell (p := ⟨q, 3, none⟩) h.hB _, cell_st hst, free_st hst, hb1⟩

theorem Own.stepA (h : Own W.heap.size q bK bX bI bA bR T L nK nX nI nA t nt items vK vX vI vA vT vR w) (hb : Below W.heap.size W w) (h0 : w.grownBy w0 none) (v : Value)
    (ho : w1.ownsRow W.heap.size 3 1 (.slice (some ⟨bA, 0, none⟩) (nA + 1) L) (nA + 1) (vA ++ [v])) (hg : w0.grownBy w1 (some bA)) :
    Own W.heap.size q bK bX bI bA bR T L nK nX nI (nA + 1) t nt items vK vX vI (vA ++ [v]) vT vR (w1.setCell ⟨q, 5, none⟩ (.slice (some ⟨bA, 0, none⟩) (nA + 1) L)) ∧
      Below W.heap.size W (w1.setCell ⟨q, 5, none⟩ (.slice (some ⟨bA, 0, none⟩) (nA + 1) L)) ∧ w1.cell? ⟨q, 5, none⟩ = some (.slice (some ⟨bA, 0, none⟩) nA L) ∧ w1.frozen? ⟨q, 5, none⟩ = false ∧ Below W.heap.size W w1 := by
  have h' := h.kept0 h0
  have hst := st_kept h'.st hg (by simpa using (h'.A.ne_st h'.st (by decide)).symm)
  have hbB := h.A.block.1
  have hb1 : Below W.heap.size W w1 := (hb.grown h0 hb.size (by intro k h; cases h)).grown hg (Nat.le_trans hb.size h0.size) (by intro k e; cases e; exact hbB)
  exact ⟨h'.appA v ho hg, hb1.setCell (p := ⟨q, 5, none⟩) h.hB _, cell_st hst, free_st hst, hb1⟩

theorem Own.stepT (h : Own W.heap.size q bK bX bI bA bR T L nK nX nI nA t nt items vK vX vI vA vT vR w) (hb : Below W.heap.size W w) (h0 : w.grownBy w0 none) (v : Value) {T' : Value}
    (ho : w1.ownsRow W.heap.size 34 1 T' (t + 1) (vT ++ [v])) (hg : w0.grownBy w1 T.ownBlock) :
    Own W.heap.size q bK bX bI bA bR T' L nK nX nI nA (t + 1) nt items vK vX vI vA (vT ++ [v]) vR (w1.setCell ⟨q, 1, none⟩ T') ∧
      Below W.heap.size W (w1.setCell ⟨q, 1, none⟩ T') ∧ w1.cell? ⟨q, 1, none⟩ = some T ∧ w1.frozen? ⟨q, 1, none⟩ = false ∧ Below W.heap.size W w1 := by
  have h' := h.kept0 h0
  have hst := st_kept h'.st hg (own_ne h'.T h'.st (by decide)).symm
  have hb1 : Below W.heap.size W w1 := (hb.grown h0 hb.size (by intro k h; cases h)).grown hg (Nat.le_trans hb.size h0.size) (fun k e => (h.T.lt k e).1)
  exact ⟨h'.appT v ho hg, hb1.setCell (p := ⟨q, 1, none⟩) h.hB _, cell_st hst, free_st hst, hb1⟩
end

theorem grown_drew (w : World) : w.grownBy w.drew none := ⟨rfl, rfl, rfl, Nat.le_refl _, fun _ _ _ => rfl⟩
theorem grown_new (w : World) (o : Obj) : w.grownBy (w.alloc o).drew none := ⟨rfl, rfl, rfl, (World.grownBy_alloc w o none).size, (World.grownBy_alloc w o none).block⟩
theorem news_one {w : World} {v : Value} {e : TypeId} : ∀ (j : Nat) (u : Value), [v][j]? = some u → (w.alloc (.cells #[v] e)).drew.cell? ((⟨w.heap.size, 0, none⟩ : Addr).add j) = some u :=
  World.news_of_block (cs := #[v]) (t := e) (fr := (0, 0)) (heap_alloc_new w _)
theorem one_int {k : IntKind} {n : Int} : ∀ u ∈ [Value.int k n], u.oneCell' = true := by
  intro u hu
  simp at hu
  subst hu
  rfl
theorem one_str {s : ByteArray} : ∀ u ∈ [Value.string s], u.oneCell' = true := by
  intro u hu
  simp at hu
  subst hu
  rfl

/-- append WITHIN THE CAPACITY, as one step of a region that draws. -/
theorem step_append_fits {P : Program} (w : World) {ops : Array Oper} {o : Oper} {a : Act} {K : Act → World → Prop} {Q : Exit → Act → World → Prop} {E : Prop} (hgd : o.guard = none) (s x : Operand) (t : TypeId)
    (hop : o.op = .call { callee := .builtin .append, args := #[s, x], argTypes := #[t, t] }) (base : Nat) (e : TypeId) (i : TypeInfo) (size : Nat) (h1 : P.underlying t = some (.slice e)) (h2 : P.info? e = some i) (h4 : i.size = size)
    (g k cap : Nat) (xs : List Value) (hs : a.eval s = .slice (some ⟨g, 0, none⟩) k cap) (hown : w.ownsRow base e size (.slice (some ⟨g, 0, none⟩) k cap) k xs)
    (ad : Addr) (m c : Nat) (news : List Value) (hx : a.eval x = .slice (some ad) m c) (hn : news.length = m * size) (hc : ∀ j u, news[j]? = some u → w.cell? (ad.add j) = some u) (h1c : ∀ u ∈ news, u.oneCell' = true)
    (hroom : k + m ≤ cap)
    (hK : ∀ w', w'.ownsRow base e size (.slice (some ⟨g, 0, none⟩) (k + m) cap) (k + m) (xs ++ news) → w.grownBy w' (some g) → K (a.put o.dst (.slice (some ⟨g, 0, none⟩) (k + m) cap)) w') :
    if Region.wanted o (yielded ops a.tmps) = true then Oper.wp P o a w K Q else E := by
  have hw : Region.wanted o (yielded ops a.tmps) = true := by simp [Region.wanted, hgd]
  rw [if_pos hw]
  obtain ⟨w', hrun, ho, hg⟩ := run_append_fits (P := P) w base t o.type e i size h1 h2 h4 g k cap xs hown ad m c news hn hc h1c hroom
  unfold Oper.wp
  simp [execOp, hop, resolve, invoke, builtin, hs, hx, hrun, Result.andThen]
  exact hK w' ho hg

end Go.Proofs.Qxb6619397a
