/-
  Seat b6621692a: the walks of types.String (function 7) and ZZTypesString (function 5).
-/
import Derived.Test.Qxb6621692aNamed
import Derived.Test.Qxb6621692aShelf
namespace Go.Proofs.Qxb6621692a
open Go.RowKit

theorem info9 : (Try.prog.info? 9).map (fun i => (i.zero, i.size, i.bytes)) = some (some (.string ByteArray.empty), 1, 16) := by kernel_rfl

/-- The row of named types when k are written. -/
def row (xs : List ByteArray) (k : Nat) : List Value := (List.range xs.length).map fun j => if j < k then Value.string (Plain.nmd (xs.getD j ByteArray.empty)) else .string ByteArray.empty

theorem made_row (xs : List ByteArray) (n : Nat) (hn : n = xs.length) : (madeCells (Value.string ByteArray.empty).cells (n * 1)).toList = row xs 0 := by
  have : (Value.string ByteArray.empty).cells = #[Value.string ByteArray.empty] := rfl
  rw [this, toList_madeCells_one]
  apply List.ext_getElem <;> simp [row, hn]

theorem row_set (xs : List ByteArray) (k : Nat) (s : ByteArray) (h : xs[k]? = some s) : (row xs k).set k (Value.string (Plain.nmd s)) = row xs (k + 1) := by
  apply List.ext_getElem
  · simp [row]
  · intro i h1 h2
    rw [List.getElem_set]
    simp only [row, List.getElem_map, List.getElem_range]
    by_cases hk : k = i
    · subst hk; simp [List.getD, h]
    · rw [if_neg hk]
      by_cases h' : i < k
      · rw [if_pos h', if_pos (by omega)]
      · rw [if_neg h', if_neg (by omega)]

theorem row_at (xs : List ByteArray) (k : Nat) (h : k < xs.length) : (row xs k)[k]? = some (Value.string ByteArray.empty) := by
  simp [row, h]

theorem row_full (xs : List ByteArray) (j : Nat) (x : ByteArray) (h : (xs.map Plain.nmd)[j]? = some x) : (row xs xs.length)[j]? = some (Value.string x) := by
  rw [List.getElem?_map] at h
  obtain ⟨s, hs, rfl⟩ := Option.map_eq_some_iff.1 h
  obtain ⟨hj, rfl⟩ := List.getElem?_eq_some_iff.1 hs
  simp [row, hj]

/-- No name: the empty message. -/
theorem str_none (a : Option Addr) (c : Nat) (w : World) :
    Calls Try.prog 7 #[.slice a 0 c] w fun e w' => e = .returned (.string ⟨#[]⟩) ∧ Below w.heap.size w w' := by
  obtain ⟨i0, hi, hz0, hz1, hz2⟩ := info_parts info9
  go_enter Try.func7, Try.ntmps7
  go_wp2_with (at_make; refine wpList_make_full _ rfl (.tmp 7) (.tmp 7) 22 rfl w.heap.size 9 i0 (.string ByteArray.empty) 1 Try.underlying22 hi hz0 hz1 _ _ _ _ 0 rfl rfl rfl rfl (by rw [hz2]; omega) (by unfold maxLen; omega) (Nat.le_refl _) ?_; intro w1 hown hg)
  refine wp_loop_rounds 1 ?_
  rw [rounds_succ]
  go_wp2_with (go_at_call 8; refine (Try.strings_Join_none _ _ _ _).mono ?_; rintro e w2 ⟨rfl, rfl⟩)
  go_ret
  exact ⟨rfl, (Below.refl _ _).grown hg (Nat.le_refl _) (by intro k h; cases h)⟩

set_option maxHeartbeats 2000000 in
theorem str_some (g off n c : Nat) (xs : List ByteArray) (w : World) (Hn : Hid (n = xs.length)) (hg0 : g < w.heap.size) (hcap : n ≤ c) (hn1 : 0 < n) (hn2 : n ≤ 1048576)
    (Hc : Hid (∀ (j : Nat) x, xs[j]? = some x → w.cell? ⟨g, off + j, none⟩ = some (.string x))) (Ht : Hid (Plain.tot xs ≤ 2097152)) :
    Calls Try.prog 7 #[.slice (some ⟨g, off, none⟩) n c] w fun e w' => e = .returned (.string (Plain.msgB xs)) ∧ Below w.heap.size w w' := by
  obtain ⟨i0, hi, hz0, hz1, hz2⟩ := info_parts info9
  go_enter Try.func7, Try.ntmps7
  go_wp2_with (at_make; refine wpList_make_full _ rfl (.tmp 7) (.tmp 7) 22 rfl w.heap.size 9 i0 (.string ByteArray.empty) 1 Try.underlying22 hi hz0 hz1 _ _ _ _ n rfl rfl rfl rfl (by rw [hz2]; omega) (by unfold maxLen; omega) (Nat.le_refl _) ?_; intro w1 hown hgr)
  rw [made_row xs n Hn.out] at hown
  go_loopw [11] (fun i wr => ∃ k : Nat, k ≤ n ∧ i = .int .i64 k ∧ wr.ownsRow w.heap.size 9 1 (.slice (some ⟨w.heap.size, 0, none⟩) n n) n (row xs k) ∧ Below w.heap.size w wr) (fun i _ => n - (intOf i).toNat)
  case atStart => exact ⟨0, Nat.zero_le _, rfl, hown, (Below.refl _ _).grown hgr (Nat.le_refl _) (by intro k h; cases h)⟩
  case round =>
    clear hown hgr
    obtain ⟨k, hk, rfl, hown, hbel⟩ := hrel
    by_cases hlt : k < n
    · obtain ⟨s, hs⟩ : ∃ s, xs[k]? = some s := ⟨xs[k]'(by rw [← Hn.out]; exact hlt), by simp⟩
      have Hs : Hid (xs[k]? = some s) := hs
      have hss : s.size ≤ 2097152 := Nat.le_trans (Plain.tot_mem xs s (List.mem_of_getElem? hs)) Ht.out
      have hcs : wr.cell? ⟨g, off + k, none⟩ = some (.string s) := (hbel.cell (p := ⟨g, off + k, none⟩) hg0).trans (Hc.out k s hs)
      have hra := row_at xs k (by rw [← Hn.out]; exact hlt)
      have hc2 := (hown.cellAt k (by omega)).trans hra
      have hf2 := hown.frozenAt k
      have R := (hown.stored k (Value.string (Plain.nmd s))).1
      rw [row_set xs k s hs] at R
      have R2 := hbel.setCell (p := ⟨w.heap.size, k, none⟩) (Nat.le_refl _) (Value.string (Plain.nmd s))
      have HR : Hid (_ ∧ _) := And.intro R R2
      clear R R2 hs hra hown hbel
      cases h0 : (s.toList == [110, 117, 108, 108]) with
      | true =>
        rw [Plain.nmd_null h0] at HR
        go_wp2
        go_roundw
        case rel => exact ⟨k + 1, by omega, by go_num, HR.out.1, HR.out.2⟩
        case measure => simp [intOf]; omega
      | false =>
      cases h1 : (s.toList == [97, 114, 114, 97, 121]) with
      | true =>
        rw [Plain.nmd_arr h0 h1] at HR
        go_wp2
        go_roundw
        case rel => exact ⟨k + 1, by omega, by go_num, HR.out.1, HR.out.2⟩
        case measure => simp [intOf]; omega
      | false =>
      cases h2 : (s.toList == [105, 110, 116, 101, 103, 101, 114]) with
      | true =>
        rw [Plain.nmd_int h0 h1 h2] at HR
        go_wp2
        go_roundw
        case rel => exact ⟨k + 1, by omega, by go_num, HR.out.1, HR.out.2⟩
        case measure => simp [intOf]; omega
      | false =>
      cases h3 : (s.toList == [111, 98, 106, 101, 99, 116]) with
      | true =>
        rw [Plain.nmd_obj h0 h1 h2 h3] at HR
        go_wp2
        go_roundw
        case rel => exact ⟨k + 1, by omega, by go_num, HR.out.1, HR.out.2⟩
        case measure => simp [intOf]; omega
      | false =>
        rw [Plain.nmd_else h0 h1 h2 h3] at HR
        go_wp2
        go_roundw
        case rel => exact ⟨k + 1, by omega, by go_num, HR.out.1, HR.out.2⟩
        case measure => simp [intOf]; omega
    · have hkn : k = n := by omega
      subst hkn
      have hcj : ∀ (j : Nat) x, (xs.map Plain.nmd)[j]? = some x → wr.cell? ⟨w.heap.size, 0 + j, none⟩ = some (.string x) := by
        intro j x hx
        have hj : j < xs.length := by simpa using (List.getElem?_eq_some_iff.1 hx).1
        rw [Nat.zero_add]
        refine (hown.cellAt j (by rw [Hn.out]; omega)).trans ?_
        have := row_full xs j x hx
        rw [← Hn.out] at this
        exact this
      have hsz : w.heap.size < wr.heap.size := (hown.lt _ rfl).2
      have hjl : (Lib.join ((xs.map Plain.nmd).map (·.data.toList)) (ByteArray.mk #[32, 111, 114, 32]).data.toList).length ≤ 140737488355328 := by
        have h1 := Plain.msg_len xs
        have h2 := Ht.out
        have e : (Lib.join ((xs.map Plain.nmd).map (·.data.toList)) (ByteArray.mk #[32, 111, 114, 32]).data.toList).length = (Plain.msg xs).length := rfl
        omega
      have J := Try.strings_Join w.heap.size 0 k (xs.map Plain.nmd) (ByteArray.mk #[32, 111, 114, 32]) wr hcj hsz (by simp; rw [← Hn.out]; omega) (by simp; rw [← Hn.out]; omega) hjl
      have e1 : (xs.map Plain.nmd).length = k := by simp; exact Hn.out.symm
      rw [e1] at J
      have HJ : Hid (Calls Try.prog 8 #[.slice (some ⟨w.heap.size, 0, none⟩) k k, .string (ByteArray.mk #[32, 111, 114, 32])] wr fun e w' => e = .returned (.string (Plain.msgB xs)) ∧ Below wr.heap.size wr w') := J
      clear J hjl hcj e1 hown
      go_wp2_with fail
      refine HJ.out.mono ?_
      rintro e w2 ⟨rfl, hb2⟩
      go_wp2
      go_ret
      exact ⟨rfl, hbel.trans (hb2.mono (by omega))⟩

theorem zz_none (a : Option Addr) (c : Nat) (w : World) :
    Calls Try.prog 5 #[.slice a 0 c] w fun e w' => e = .returned (.string ⟨#[]⟩) ∧ Below w.heap.size w w' := by
  go_enter Try.func5, Try.ntmps5
  go_wp2_with (go_at_call 7; refine (str_none _ _ _).mono ?_; rintro e w2 ⟨rfl, hb2⟩)
  go_ret
  exact ⟨rfl, hb2⟩

theorem zz_some (g off n c : Nat) (xs : List ByteArray) (w : World) (Hn : Hid (n = xs.length)) (hg0 : g < w.heap.size) (hcap : n ≤ c) (hn1 : 0 < n) (hn2 : n ≤ 1048576)
    (Hc : Hid (∀ (j : Nat) x, xs[j]? = some x → w.cell? ⟨g, off + j, none⟩ = some (.string x))) (Ht : Hid (Plain.tot xs ≤ 2097152)) :
    Calls Try.prog 5 #[.slice (some ⟨g, off, none⟩) n c] w fun e w' => e = .returned (.string (Plain.msgB xs)) ∧ Below w.heap.size w w' := by
  go_enter Try.func5, Try.ntmps5
  go_wp2_with fail
  refine (str_some g off n c xs w Hn hg0 hcap hn1 hn2 Hc Ht).mono ?_
  rintro e w2 ⟨rfl, hb2⟩
  go_wp2
  go_ret
  exact ⟨rfl, hb2⟩
end Go.Proofs.Qxb6621692a
