/-
  Seat b6619397a: the walks of toKinds (8), toTxns (9), zzBytes (10).
-/
import Derived.Test.Qxb6619397aSmall
import Derived.Test.Qxb6619397aOwn
namespace Go.Proofs.Qxb6619397a
open Go.RowKit

theorem info33' : (Try.prog.info? 33).map (fun i => (i.zero, i.size, i.bytes)) = some (some (.int .u8 0), 1, 1) := by kernel_rfl
theorem info34' : (Try.prog.info? 34).map (fun i => (i.zero, i.size, i.bytes)) = some (some (.string ByteArray.empty), 1, 16) := by kernel_rfl

/-- A slice of integers (of kinds, of bytes) that can be read: n of them, as zs says. -/
def Ints (w : World) (k : IntKind) (a : Option Addr) (n : Nat) (zs : List Int) : Prop :=
  0 < n → ∃ g off, a = some ⟨g, off, none⟩ ∧ ∀ j, j < n → w.cell? ⟨g, off + j, none⟩ = some (.int k (zs.getD j 0))
/-- A slice of strings that can be read. -/
def Strs (w : World) (a : Option Addr) (n : Nat) (ss : List ByteArray) : Prop :=
  0 < n → ∃ g off, a = some ⟨g, off, none⟩ ∧ ∀ j, j < n → w.cell? ⟨g, off + j, none⟩ = some (.string (ss.getD j ByteArray.empty))

theorem Ints.kept {w w' : World} {k : IntKind} {a : Option Addr} {n : Nat} {zs : List Int} (h : Ints w k a n zs) (hb : Below w.heap.size w w') : Ints w' k a n zs := by
  intro hn
  obtain ⟨g, off, ha, hc⟩ := h hn
  exact ⟨g, off, ha, fun j hj => (hb.cell (World.block_lt_of_cell? _ _ (hc j hj))).trans (hc j hj)⟩
theorem Strs.kept {w w' : World} {a : Option Addr} {n : Nat} {ss : List ByteArray} (h : Strs w a n ss) (hb : Below w.heap.size w w') : Strs w' a n ss := by
  intro hn
  obtain ⟨g, off, ha, hc⟩ := h hn
  exact ⟨g, off, ha, fun j hj => (hb.cell (World.block_lt_of_cell? _ _ (hc j hj))).trans (hc j hj)⟩

def rowK (n : Nat) (ks : List Int) (k : Nat) : List Value := (List.range n).map fun j => if j < k then Value.int .u8 (ks.getD j 0) else .int .u8 0
def rowS (n : Nat) (ts : List ByteArray) (k : Nat) : List Value := (List.range n).map fun j => if j < k then Value.string (ts.getD j ByteArray.empty) else .string ByteArray.empty

theorem rowK_zero (n : Nat) (ks : List Int) : (madeCells (Value.int .u8 0).cells (n * 1)).toList = rowK n ks 0 := by
  have e : (Value.int .u8 0).cells = #[Value.int .u8 0] := rfl
  rw [e, toList_madeCells_one]
  apply List.ext_getElem <;> simp [rowK]
theorem rowS_zero (n : Nat) (ts : List ByteArray) : (madeCells (Value.string ByteArray.empty).cells (n * 1)).toList = rowS n ts 0 := by
  have e : (Value.string ByteArray.empty).cells = #[Value.string ByteArray.empty] := rfl
  rw [e, toList_madeCells_one]
  apply List.ext_getElem <;> simp [rowS]
theorem rowK_set (n k : Nat) (ks : List Int) : (rowK n ks k).set k (.int .u8 (ks.getD k 0)) = rowK n ks (k + 1) := by
  apply List.ext_getElem
  · simp [rowK]
  · intro i h1 h2
    rw [List.getElem_set]
    simp only [rowK, List.getElem_map, List.getElem_range]
    by_cases h : k = i
    · subst h; simp
    · rw [if_neg h]
      by_cases h' : i < k
      · rw [if_pos h', if_pos (by omega)]
      · rw [if_neg h', if_neg (by omega)]
theorem rowS_set (n k : Nat) (ts : List ByteArray) : (rowS n ts k).set k (.string (ts.getD k ByteArray.empty)) = rowS n ts (k + 1) := by
  apply List.ext_getElem
  · simp [rowS]
  · intro i h1 h2
    rw [List.getElem_set]
    simp only [rowS, List.getElem_map, List.getElem_range]
    by_cases h : k = i
    · subst h; simp
    · rw [if_neg h]
      by_cases h' : i < k
      · rw [if_pos h', if_pos (by omega)]
      · rw [if_neg h', if_neg (by omega)]
theorem rowK_at (n k : Nat) (ks : List Int) (h : k < n) : (rowK n ks k)[k]? = some (.int .u8 0) := by simp [rowK, h]
theorem rowS_at (n k : Nat) (ts : List ByteArray) (h : k < n) : (rowS n ts k)[k]? = some (.string ByteArray.empty) := by simp [rowS, h]
theorem rowK_full (n j : Nat) (ks : List Int) (h : j < n) : (rowK n ks n)[j]? = some (.int .u8 (ks.getD j 0)) := by simp [rowK, h]
theorem rowS_full (n j : Nat) (ts : List ByteArray) (h : j < n) : (rowS n ts n)[j]? = some (.string (ts.getD j ByteArray.empty)) := by simp [rowS, h]

/-- What toKinds hands back. -/
def EndsK (n : Nat) (ks : List Int) (w : World) (e : Ending) (w' : World) : Prop := ∃ a c, e = .returned (.slice a n c) ∧ n ≤ c ∧ Ints w' .u8 a n ks ∧ Below w.heap.size w w'
def EndsT (n : Nat) (ts : List ByteArray) (w : World) (e : Ending) (w' : World) : Prop := ∃ a c, e = .returned (.slice a n c) ∧ n ≤ c ∧ Strs w' a n ts ∧ Below w.heap.size w w'

set_option maxHeartbeats 1000000 in
theorem toKinds (a : Option Addr) (n c : Nat) (ks : List Int) (w : World) (hn : n ≤ 65536) (hz : a = none → n = 0) (H : Hid (Ints w .u8 a n ks)) :
    Calls Try.prog 8 #[.slice a n c] w fun e w' => EndsK n ks w e w' := by
  obtain ⟨i0, hi, hz0, hz1, hz2⟩ := info_parts info33'
  have heq := fun wx a n c => Lib.run_eql_slice_nil (P := Try.prog) wx 22 5 a n c 0 0 Try.underlying22
  cases a with
  | none =>
    have h0 := hz rfl
    subst h0
    go_enter Try.func8, Try.ntmps8
    go_wp2
    go_ret
    exact ⟨none, 0, rfl, Nat.le_refl _, fun h => absurd h (by omega), Below.refl _ _⟩
  | some x =>
    clear hz
    go_enter Try.func8, Try.ntmps8
    go_wp2_with (at_make; refine wpList_make_full _ rfl (.tmp 8) (.tmp 8) 27 rfl w.heap.size 33 i0 (.int .u8 0) 1 Try.underlying27 hi hz0 hz1 _ _ _ _ n rfl rfl rfl rfl (by rw [hz2]; omega) (by unfold maxLen; omega) (Nat.le_refl _) ?_; intro w1 hown hg)
    rw [rowK_zero n ks] at hown
    go_loopw [4] (fun i wr => ∃ k : Nat, k ≤ n ∧ i = .int .i64 k ∧ wr.ownsRow w.heap.size 33 1 (.slice (some ⟨w.heap.size, 0, none⟩) n n) n (rowK n ks k) ∧ Below w.heap.size w wr) (fun i _ => n - (intOf i).toNat)
    case atStart => exact ⟨0, Nat.zero_le _, rfl, hown, (Below.refl _ _).grown hg (Nat.le_refl _) (by intro k h; cases h)⟩
    case round =>
      clear hown hg
      obtain ⟨k, hk, rfl, hown, hb⟩ := hrel
      by_cases hlt : k < n
      · obtain ⟨g, off, hax, hc⟩ := H.out (by omega)
        cases hax
        have ck : wr.cell? ⟨g, off + k, none⟩ = some (.int .u8 (ks.getD k 0)) := (hb.cell (World.block_lt_of_cell? _ _ (hc k hlt))).trans (hc k hlt)
        have c2 := (hown.cellAt k (by omega)).trans (rowK_at n k ks hlt)
        have f2 := hown.frozenAt k
        have R := (hown.stored k (.int .u8 (ks.getD k 0))).1
        rw [rowK_set] at R
        have R1 := hid R
        have R2 := hid (hb.setCell (p := ⟨w.heap.size, k, none⟩) (Nat.le_refl _) (.int .u8 (ks.getD k 0)))
        generalize ks.getD k 0 = x at *
        clear hc hown hb R H
        go_wp2
        go_roundw
        case rel => exact ⟨k + 1, by omega, by go_num, R1.out, R2.out⟩
        case measure => simp [intOf]; omega
      · have ek : n = k := by omega
        obtain rfl := ek
        go_wp2
        go_ret
        exact ⟨_, n, rfl, Nat.le_refl _, fun _ => ⟨w.heap.size, 0, rfl, fun j hj => by rw [Nat.zero_add]; exact (hown.cellAt j (by omega)).trans (rowK_full n j ks hj)⟩, hb⟩

set_option maxHeartbeats 1000000 in
theorem toTxns (a : Option Addr) (n c : Nat) (ts : List ByteArray) (w : World) (hn : n ≤ 65536) (hz : a = none → n = 0) (H : Hid (Strs w a n ts)) :
    Calls Try.prog 9 #[.slice a n c] w fun e w' => EndsT n ts w e w' := by
  obtain ⟨i0, hi, hz0, hz1, hz2⟩ := info_parts info34'
  have heq := fun wx a n c => Lib.run_eql_slice_nil (P := Try.prog) wx 23 9 a n c 0 0 Try.underlying23
  cases a with
  | none =>
    have h0 := hz rfl
    subst h0
    go_enter Try.func9, Try.ntmps9
    go_wp2
    go_ret
    exact ⟨none, 0, rfl, Nat.le_refl _, fun h => absurd h (by omega), Below.refl _ _⟩
  | some x =>
    clear hz
    go_enter Try.func9, Try.ntmps9
    go_wp2_with (at_make; refine wpList_make_full _ rfl (.tmp 8) (.tmp 8) 28 rfl w.heap.size 34 i0 (.string ByteArray.empty) 1 Try.underlying28 hi hz0 hz1 _ _ _ _ n rfl rfl rfl rfl (by rw [hz2]; omega) (by unfold maxLen; omega) (Nat.le_refl _) ?_; intro w1 hown hg)
    rw [rowS_zero n ts] at hown
    go_loopw [4] (fun i wr => ∃ k : Nat, k ≤ n ∧ i = .int .i64 k ∧ wr.ownsRow w.heap.size 34 1 (.slice (some ⟨w.heap.size, 0, none⟩) n n) n (rowS n ts k) ∧ Below w.heap.size w wr) (fun i _ => n - (intOf i).toNat)
    case atStart => exact ⟨0, Nat.zero_le _, rfl, hown, (Below.refl _ _).grown hg (Nat.le_refl _) (by intro k h; cases h)⟩
    case round =>
      clear hown hg
      obtain ⟨k, hk, rfl, hown, hb⟩ := hrel
      by_cases hlt : k < n
      · obtain ⟨g, off, hax, hc⟩ := H.out (by omega)
        cases hax
        have ck : wr.cell? ⟨g, off + k, none⟩ = some (.string (ts.getD k ByteArray.empty)) := (hb.cell (World.block_lt_of_cell? _ _ (hc k hlt))).trans (hc k hlt)
        have c2 := (hown.cellAt k (by omega)).trans (rowS_at n k ts hlt)
        have f2 := hown.frozenAt k
        have R := (hown.stored k (.string (ts.getD k ByteArray.empty))).1
        rw [rowS_set] at R
        have R1 := hid R
        have R2 := hid (hb.setCell (p := ⟨w.heap.size, k, none⟩) (Nat.le_refl _) (.string (ts.getD k ByteArray.empty)))
        generalize ts.getD k ByteArray.empty = x at *
        clear hc hown hb R H
        go_wp2
        go_roundw
        case rel => exact ⟨k + 1, by omega, by go_num, R1.out, R2.out⟩
        case measure => simp [intOf]; omega
      · have ek : n = k := by omega
        obtain rfl := ek
        go_wp2
        go_ret
        exact ⟨_, n, rfl, Nat.le_refl _, fun _ => ⟨w.heap.size, 0, rfl, fun j hj => by rw [Nat.zero_add]; exact (hown.cellAt j (by omega)).trans (rowS_full n j ts hj)⟩, hb⟩
end Go.Proofs.Qxb6619397a
