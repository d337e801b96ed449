/-
  Seat b6621643aD: THE WALK OF FnCacheNamesPrefixAndParseBack (function 3), out of the two contracts.
-/
import Derived.Test.Qxb6621643aDoorName
import Derived.Test.Qxb6621643aDoorMake
namespace Go.Proofs.Qxb6621643aDoor
open Go.RowKit

theorem nm_list (j : Nat) : (nm j).data.toList = [99, 97, 99, 104, 101, 45] ++ Lib.decDigits (j + 1) := by
  simp [nm, dec, ByteArray.data_append]

theorem nm_size (j : Nat) : (nm j).size = 6 + (Lib.decDigits (j + 1)).length := by
  have h : (nm j).data.toList.length = (nm j).size := by simp
  rw [← h, nm_list]; simp; omega

theorem at_of (s : ByteArray) (l : List UInt8) (e : s.data.toList = l) (i : Nat) (h : i < s.size) (h' : i < l.length) : s[i]'h = l[i]'h' := by
  subst e
  rw [Array.getElem_toList]; rfl

theorem nameOk (j : Nat) (hj : j < 65536) (w : World) :
    Calls Tryd.prog 5 #[.string (nm j), .int .i64 ((j : Int) + 1)] w fun e w' => e = .returned (.bool true) ∧ ∃ k, w' = w.drewN k := by
  have h1 := Plain.len_pos (j + 1)
  have h9 := Plain.len_dec (j + 1) (by omega)
  have hh := Plain.head_dec (j + 1) (by omega)
  have hd := Plain.dig_dec (j + 1)
  have hv := Plain.val_dec (j + 1)
  have hl := nm_list j
  have hs := nm_size j
  generalize Lib.decDigits (j + 1) = ds at *
  generalize nm j = s at *
  have e6 : ∀ i (hi : i < ds.length) (h' : 6 + i < s.size), s[6 + i]'h' = ds[i] := by
    intro i hi h'
    rw [at_of s _ hl (6 + i) h' (by simp; omega), List.getElem_append_right (by simp)]
    simp
  refine isName s ds (j + 1) w (by omega) (by omega) ?_ ?_ ?_ ?_ ?_ ?_ ?_ hs hd e6 hv
  · rw [at_of s _ hl 0 (by omega) (by simp)]; rfl
  · rw [at_of s _ hl 1 (by omega) (by simp)]; rfl
  · rw [at_of s _ hl 2 (by omega) (by simp)]; rfl
  · rw [at_of s _ hl 3 (by omega) (by simp)]; rfl
  · rw [at_of s _ hl 4 (by omega) (by simp)]; rfl
  · rw [at_of s _ hl 5 (by omega) (by simp)]; rfl
  · have e : s[6]'(by omega) = ds[0] := e6 0 (by omega) (by omega)
    rw [e]; have := hh (by omega); omega

theorem row_full (n j : Nat) (h : j < n) : (row n n)[j]? = some (Value.string (nm j)) := by
  simp [row, h]

theorem out_n (n m : Int) (w : World) (h : n < 0 ∨ 65536 < n) :
    Calls Tryd.prog 3 #[.int .i64 n, .int .i64 m] w fun e w' => e = .returned (.bool true) ∧ Below w.heap.size w w' := by
  by_cases h0 : n < 0
  · go_enter Tryd.func3, Tryd.ntmps3
    go_wp2
    go_ret
    exact ⟨rfl, Below.refl _ _⟩
  · have h1 : 65536 < n := by omega
    go_enter Tryd.func3, Tryd.ntmps3
    go_wp2
    go_ret
    exact ⟨rfl, Below.refl _ _⟩

theorem out_m (n m : Int) (w : World) (hn0 : 0 ≤ n) (hn1 : n ≤ 65536) (h : m < 0 ∨ 65536 < m) :
    Calls Tryd.prog 3 #[.int .i64 n, .int .i64 m] w fun e w' => e = .returned (.bool true) ∧ Below w.heap.size w w' := by
  by_cases h0 : m < 0
  · go_enter Tryd.func3, Tryd.ntmps3
    go_wp2
    go_ret
    exact ⟨rfl, Below.refl _ _⟩
  · have h1 : 65536 < m := by omega
    go_enter Tryd.func3, Tryd.ntmps3
    go_wp2
    go_ret
    exact ⟨rfl, Below.refl _ _⟩

set_option maxHeartbeats 1000000 in
theorem inside (n m : Nat) (w : World) (hn : n ≤ 65536) (hm : m ≤ 65536) (hw0 : 0 < w.heap.size) (htab : Lib.TabIs Tryd.prog w tabName .u64 Lib.pow10Tab) :
    Calls Tryd.prog 3 #[.int .i64 n, .int .i64 m] w fun e w' => e = .returned (.bool true) ∧ Below w.heap.size w w' := by
  have Htab : Hid (Lib.TabIs Tryd.prog w tabName .u64 Lib.pow10Tab) := htab
  clear htab
  go_enter Tryd.func3, Tryd.ntmps3
  go_wp2_with fail
  refine (names n hn _ hw0 Htab.out).mono ?_
  rintro e w1 ⟨rfl, ho1, hb1⟩
  have hsz1 : w.heap.size < w1.heap.size := (ho1.lt _ rfl).2
  have Ht1 : Hid (Lib.TabIs Tryd.prog w1 tabName .u64 Lib.pow10Tab) := var?_below hb1 tab_g hw0 Htab.out
  have cA1 : ∀ j, j < n → w1.cell? ⟨w.heap.size, j, none⟩ = some (.string (nm j)) := fun j hj => (ho1.cellAt j (by omega)).trans (row_full n j hj)
  clear Htab ho1
  go_wp2_with fail
  refine (names m hm _ (by omega) Ht1.out).mono ?_
  rintro e w2 ⟨rfl, ho2, hb2⟩
  have cA : ∀ j, j < n → w2.cell? ⟨w.heap.size, j, none⟩ = some (.string (nm j)) := fun j hj => (hb2.cell hsz1).trans (cA1 j hj)
  have cB : ∀ j, j < m → w2.cell? ⟨w1.heap.size, j, none⟩ = some (.string (nm j)) := fun j hj => (ho2.cellAt j (by omega)).trans (row_full m j hj)
  have hb : Below w.heap.size w w2 := hb1.trans (hb2.mono (by omega))
  clear Ht1 cA1 ho2 hb2 hb1
  go_wp2_with fail
  go_loopw [7] (fun i wr => ∃ k : Nat, k ≤ n ∧ i = .int .i64 k ∧ ∃ q, wr = w2.drewN q) (fun i _ => n - (intOf i).toNat)
  case atStart => exact ⟨0, Nat.zero_le _, rfl, 0, rfl⟩
  case round =>
    obtain ⟨k, hk, rfl, q, rfl⟩ := hrel
    by_cases hlt : k < n
    · have hc := cA k hlt
      clear cA cB
      go_wp2_with (go_at_call 5; refine (nameOk k (by omega) _).mono ?_; rintro e w3 ⟨rfl, q3, rfl⟩)
      go_roundw
      case rel => exact ⟨k + 1, by omega, by go_num, _, rfl⟩
      case measure => simp [intOf]; omega
    · have ek : decide ((k : Int) < n) = false := by simp; omega
      go_wp2
      go_loopw [8] (fun i wr => ∃ k : Nat, k ≤ m ∧ i = .int .i64 k ∧ ∃ q, wr = w2.drewN q) (fun i _ => m - (intOf i).toNat)
      case atStart => exact ⟨0, Nat.zero_le _, rfl, _, rfl⟩
      case round =>
        obtain ⟨k2, hk2, rfl, q2, rfl⟩ := hrel
        by_cases hlt2 : k2 < m
        · have hc := cB k2 hlt2
          clear cA cB
          go_wp2_with (go_at_call 5; refine (nameOk k2 (by omega) _).mono ?_; rintro e w3 ⟨rfl, q3, rfl⟩)
          go_roundw
          case rel => exact ⟨k2 + 1, by omega, by go_num, _, rfl⟩
          case measure => simp [intOf]; omega
        · have ek2 : decide ((k2 : Int) < m) = false := by simp; omega
          obtain ⟨c, hcn, hcm, hcc⟩ : ∃ c : Nat, c ≤ n ∧ c ≤ m ∧ ((m < n ∧ c = m) ∨ (¬ m < n ∧ c = n)) := by
            by_cases h : m < n
            · exact ⟨m, by omega, by omega, .inl ⟨h, rfl⟩⟩
            · exact ⟨n, by omega, by omega, .inr ⟨h, rfl⟩⟩
          rcases hcc with ⟨hmn, rfl⟩ | ⟨hmn, rfl⟩
          · have em : decide ((c : Int) < n) = true := by simp; omega
            go_wp2
            go_loopw [10] (fun i wr => ∃ k : Nat, k ≤ c ∧ i = .int .i64 k ∧ ∃ q, wr = w2.drewN q) (fun i _ => c - (intOf i).toNat)
            case atStart => exact ⟨0, Nat.zero_le _, rfl, _, rfl⟩
            case round =>
              obtain ⟨k3, hk3, rfl, q3, rfl⟩ := hrel
              by_cases hlt3 : k3 < c
              · have h3a := cA k3 (by omega)
                have h3b := cB k3 (by omega)
                have g1 : (k3 : Int) < n := by omega
                have g2 : (k3 : Int) < c := by omega
                clear cA cB
                go_wp2
                go_quiet (fail)
                go_wp2
                go_roundw
                case rel => exact ⟨k3 + 1, by omega, by go_num, _, rfl⟩
                case measure => simp [intOf]; omega
              · go_wp2
                go_ret
                exact ⟨rfl, below_drewN hb _⟩
          · have em : decide ((m : Int) < c) = false := by simp; omega
            go_wp2
            go_loopw [10] (fun i wr => ∃ k : Nat, k ≤ c ∧ i = .int .i64 k ∧ ∃ q, wr = w2.drewN q) (fun i _ => c - (intOf i).toNat)
            case atStart => exact ⟨0, Nat.zero_le _, rfl, _, rfl⟩
            case round =>
              obtain ⟨k3, hk3, rfl, q3, rfl⟩ := hrel
              by_cases hlt3 : k3 < c
              · have h3a := cA k3 (by omega)
                have h3b := cB k3 (by omega)
                have g1 : (k3 : Int) < m := by omega
                have g2 : (k3 : Int) < c := by omega
                clear cA cB
                go_wp2
                go_quiet (fail)
                go_wp2
                go_roundw
                case rel => exact ⟨k3 + 1, by omega, by go_num, _, rfl⟩
                case measure => simp [intOf]; omega
              · go_wp2
                go_ret
                exact ⟨rfl, below_drewN hb _⟩
end Go.Proofs.Qxb6621643aDoor
