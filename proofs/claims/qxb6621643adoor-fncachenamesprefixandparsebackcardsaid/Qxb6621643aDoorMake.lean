/-
  Seat b6621643aD: THE WALK OF CacheNames (function 4).
-/
import Derived.Test.Qxb6621643aDoorRows
import Derived.Test.Qxb6621643aDoorPlain
import Derived.Test.Qxb6621643aDoorShelf
import Derived.WalkKit
import Derived.WalkSpells
import Derived.WalkLawsBesides
namespace Go.Proofs.Qxb6621643aDoor
open Go.RowKit

theorem info9 : (Tryd.prog.info? 9).map (fun i => (i.zero, i.size, i.bytes)) = some (some (.string ByteArray.empty), 1, 16) := by kernel_rfl

/-- The numeral of j + 1. -/
def dec (j : Nat) : ByteArray := ⟨(Lib.decDigits (j + 1)).toArray⟩
/-- The text of the j-th name. -/
def nm (j : Nat) : ByteArray := ({ data := #[99, 97, 99, 104, 101, 45] } : ByteArray) ++ dec j
theorem dec_size (j : Nat) (h : j ≤ 65536) : (dec j).size ≤ 9 := by
  have := Plain.len_dec (j + 1) (by omega)
  simpa [dec, ByteArray.size] using this
/-- The row of names when k of n are written. -/
def row (n k : Nat) : List Value := (List.range n).map fun j => if j < k then Value.string (nm j) else .string ByteArray.empty

theorem grown_grow (w : World) (k : Nat) (os : Array Obj) : w.grownBy (Sort.grow (w.drewN k) os) .none :=
  ⟨rfl, rfl, rfl, by simp [Sort.grow], fun k' hk _ => by
    have : k' < (w.drewN k).heap.size := hk
    rw [Sort.heap_grow_old _ _ this]; rfl⟩

theorem made_row (n : Nat) : (madeCells (Value.string ByteArray.empty).cells (n * 1)).toList = row n 0 := by
  have : (Value.string ByteArray.empty).cells = #[Value.string ByteArray.empty] := rfl
  rw [this, toList_madeCells_one]
  apply List.ext_getElem <;> simp [row]

theorem row_set (n k : Nat) : (row n k).set k (Value.string (nm k)) = row n (k + 1) := by
  apply List.ext_getElem
  · simp [row]
  · intro i h1 h2
    rw [List.getElem_set]
    simp only [row, List.getElem_map, List.getElem_range]
    by_cases h : k = i
    · subst h; simp
    · rw [if_neg h]
      by_cases h' : i < k
      · rw [if_pos h', if_pos (by omega)]
      · rw [if_neg h', if_neg (by omega)]

theorem tab_g : Tryd.prog.globalNamed tabName = some 0 := by kernel_rfl

theorem row_at (n k : Nat) (h : k < n) : (row n k)[k]? = some (Value.string ByteArray.empty) := by
  simp [row, h]

theorem itoa_call (k : Nat) (hk : k ≤ 65536) (w : World) (ht : Hid (Lib.TabIs Tryd.prog w tabName .u64 Lib.pow10Tab)) :
    Calls Tryd.prog 6 #[.int .i64 ((k : Int) + 1)] w fun e w' => e = .returned (.string (dec k)) ∧ w.grownBy w' .none := by
  refine (Tryd.strconv_Itoa ((k : Int) + 1) (by omega) (by omega) w ht.out).mono ?_
  rintro e w' ⟨rfl, n, os, rfl⟩
  refine ⟨?_, grown_grow w n os⟩
  have : Lib.itoa ((k : Int) + 1) = Lib.decDigits (k + 1) := by
    have := Lib.itoa_nonneg (k + 1)
    rw [← this]; rfl
  rw [this]; rfl

set_option maxHeartbeats 400000 in
theorem names (n : Nat) (hn : n ≤ 65536) (w : World) (hw0 : 0 < w.heap.size) (htab : Lib.TabIs Tryd.prog w tabName .u64 Lib.pow10Tab) :
    Calls Tryd.prog 4 #[.int .i64 n] w fun e w' => e = .returned (.slice (some ⟨w.heap.size, 0, none⟩) n n) ∧
      w'.ownsRow w.heap.size 9 1 (.slice (some ⟨w.heap.size, 0, none⟩) n n) n (row n n) ∧ Below w.heap.size w w' := by
  obtain ⟨i0, hi, hz0, hz1, hz2⟩ := info_parts info9
  have Htab : Hid (Lib.TabIs Tryd.prog w tabName .u64 Lib.pow10Tab) := htab
  clear htab
  go_enter Tryd.func4, Tryd.ntmps4
  go_wp2_with (at_make; refine wpList_make_full _ rfl (.tmp 5) (.tmp 5) 22 rfl w.heap.size 9 i0 (.string ByteArray.empty) 1 Tryd.underlying22 hi hz0 hz1 _ _ _ _ n rfl rfl rfl rfl (by rw [hz2]; omega) (by unfold maxLen; omega) (Nat.le_refl _) ?_; intro w1 hown hg)
  rw [made_row] at hown
  go_loopw [9] (fun i wr => ∃ k : Nat, k ≤ n ∧ i = .int .i64 k ∧ wr.ownsRow w.heap.size 9 1 (.slice (some ⟨w.heap.size, 0, none⟩) n n) n (row n k) ∧ Below w.heap.size w wr) (fun i _ => n - (intOf i).toNat)
  case atStart => exact ⟨0, Nat.zero_le _, rfl, hown, (Below.refl _ _).grown hg (Nat.le_refl _) (by intro k h; cases h)⟩
  case round =>
    clear hown hg
    obtain ⟨k, hk, rfl, hown, hbel⟩ := hrel
    by_cases hlt : k < n
    · have Ht : Hid (Lib.TabIs Tryd.prog wr tabName .u64 Lib.pow10Tab) := var?_below hbel tab_g hw0 Htab.out
      have hds := dec_size k (by omega)
      have hra := row_at n k hlt
      go_wp2_with (go_at_call 6; refine (itoa_call k (by omega) _ Ht).mono ?_; rintro e w2 ⟨rfl, hg2⟩; have hown2 := hown.kept hg2 (.inr (by simp [Value.ownBlock])); have hc2 := (hown2.cellAt k (by omega)).trans hra; have hf2 := hown2.frozenAt k)
      have R := (hown2.stored k (Value.string (nm k))).1
      rw [row_set] at R
      have R2 := (hbel.grown hg2 hbel.size (by intro j h; cases h)).setCell (p := ⟨w.heap.size, k, none⟩) (Nat.le_refl _) (Value.string (nm k))
      go_roundw
      case rel => exact ⟨k + 1, by omega, by go_num, R, R2⟩
      case measure => simp [intOf]; omega
    · have hkn : k = n := by omega
      subst hkn
      go_wp2
      go_ret
      exact ⟨rfl, hown, hbel⟩
end Go.Proofs.Qxb6621643aDoor
