/-
  Seat b6619397a: withoutLocks where no operation is a lock's; ZZWithoutLocks (7).
-/
import Derived.Test.Qxb6619397aWithout
import Derived.Test.Qxb6619397aConv
import Derived.Test.Qxb6619397aCompare
import Derived.Deep.QuietTactic
import Derived.BigQuiet
namespace Go.Proofs.Qxb6619397a
open Go.RowKit

set_option maxRecDepth 100000 in
set_option maxHeartbeats 1000000 in
theorem wl_none (p n cK : Nat) (aK : Option Addr) (ks : List Int) (W : World) (hn : n ≤ 65537)
    (h0 : W.cell? ⟨p, 0, none⟩ = some (.slice aK n cK)) (HK : Hid (Ints W .u8 aK n ks)) (Hall : Hid ((Plain.kp ks n).length = n)) :
    Calls Try.prog 11 #[.pointer (some ⟨p, 0, none⟩)] W fun e w' => e = .returned (.pointer (some ⟨p, 0, none⟩)) ∧ w' = W := by
  go_enter Try.func11, Try.ntmps11
  go_wp2
  go_loop [3, 19] (fun v i => ∃ k : Nat, k ≤ n ∧ i = .int .i64 k ∧ v = .int .i64 (Plain.kp ks k).length) (fun _ i => n - (intOf i).toNat)
  case atStart => exact ⟨0, Nat.zero_le _, rfl, rfl⟩
  case round =>
    obtain ⟨k, hk, rfl, rfl⟩ := hrel
    have hle := Plain.kp_len_le ks k
    by_cases hkn : k < n
    · obtain ⟨gK, oK, rfl, hcs⟩ := HK.out (by omega)
      have hc := hcs k hkn
      have HY := hid (Plain.kp_stay ks k)
      have HN := hid (Plain.kp_lock ks k)
      obtain ⟨c, hcc⟩ : ∃ c, c = ks.getD k 0 := ⟨_, rfl⟩
      rw [← hcc] at hc HY HN
      clear hcc hcs
      cases hl : Plain.lock c with
      | true =>
        go_wp2_with (go_at_call 12; refine (locking c _).mono ?_; rintro e w1 ⟨rfl, rfl⟩; rw [hl])
        go_round
        case rel => exact ⟨k + 1, by omega, by go_num, by rw [HN.out hl]⟩
        case measure => simp [intOf]; omega
      | false =>
        go_wp2_with (go_at_call 12; refine (locking c _).mono ?_; rintro e w1 ⟨rfl, rfl⟩; rw [hl])
        go_round
        case rel => exact ⟨k + 1, by omega, by go_num, by rw [HY.out hl]; simp⟩
        case measure => simp [intOf]; omega
    · have ekn : n = k := by omega
      obtain rfl := ekn
      rw [Hall.out]
      go_wp2
      go_ret
      exact ⟨rfl, rfl⟩

/-- A slice of integers that can be read: n of them, as f says. -/
def IntsF (w : World) (k : IntKind) (a : Option Addr) (n : Nat) (f : Nat → Int) : Prop :=
  0 < n → ∃ g off, a = some ⟨g, off, none⟩ ∧ ∀ j, j < n → w.cell? ⟨g, off + j, none⟩ = some (.int k (f j))
def StrsF (w : World) (a : Option Addr) (n : Nat) (f : Nat → ByteArray) : Prop :=
  0 < n → ∃ g off, a = some ⟨g, off, none⟩ ∧ ∀ j, j < n → w.cell? ⟨g, off + j, none⟩ = some (.string (f j))
theorem IntsF.kept {w w' : World} {k : IntKind} {a : Option Addr} {n : Nat} {f : Nat → Int} (h : IntsF w k a n f) (hb : Below w.heap.size w w') : IntsF w' k a n f := by
  intro hn
  obtain ⟨g, off, ha, hc⟩ := h hn
  exact ⟨g, off, ha, fun j hj => (hb.cell (World.block_lt_of_cell? _ _ (hc j hj))).trans (hc j hj)⟩
theorem StrsF.kept {w w' : World} {a : Option Addr} {n : Nat} {f : Nat → ByteArray} (h : StrsF w a n f) (hb : Below w.heap.size w w') : StrsF w' a n f := by
  intro hn
  obtain ⟨g, off, ha, hc⟩ := h hn
  exact ⟨g, off, ha, fun j hj => (hb.cell (World.block_lt_of_cell? _ _ (hc j hj))).trans (hc j hj)⟩
theorem IntsF.of_rw {w : World} {B e b L : Nat} {k : IntKind} {vs : List Value} {f : Nat → Int} (h : Rw B e b L L vs w) (hv : ∀ j, j < L → vs[j]? = some (.int k (f j))) : IntsF w k (some ⟨b, 0, none⟩) L f :=
  fun _ => ⟨b, 0, rfl, fun j hj => by rw [Nat.zero_add]; exact (World.ownsRow.cellAt h j (by omega)).trans (hv j hj)⟩

/-- The j-th operation that stays. -/
def kq (ks : List Int) (n j : Nat) : Nat := (Plain.kp ks n).getD j 0
/-- Its new transaction number. -/
def fX (ks xs : List Int) (n j : Nat) : Int := (Plain.rk ks xs n (xs.getD (kq ks n j) 0).toNat : Int) - 1
/-- The j-th transaction that is used. -/
def fT (ks xs : List Int) (ts : List ByteArray) (n nt j : Nat) : ByteArray := ts.getD ((Plain.us ks xs n nt).getD j 0) ByteArray.empty

/-- What ZZWithoutLocks hands back. -/
def EndsZ (W : World) (n nt : Nat) (items : Int) (ks xs is : List Int) (ts : List ByteArray) (e : Ending) (w' : World) : Prop :=
  ∃ aK cK aT cT aX cX aI cI aA LA cA, e = .returned (.tuple #[.slice aK (Plain.kp ks n).length cK, .slice aT (Plain.us ks xs n nt).length cT, .slice aX (Plain.kp ks n).length cX, .slice aI (Plain.kp ks n).length cI, .int .i64 items, .slice aA LA cA, .bool true]) ∧
    IntsF w' .u8 aK (Plain.kp ks n).length (fun j => ks.getD (kq ks n j) 0) ∧ StrsF w' aT (Plain.us ks xs n nt).length (fT ks xs ts n nt) ∧
    IntsF w' .i64 aX (Plain.kp ks n).length (fX ks xs n) ∧ IntsF w' .i64 aI (Plain.kp ks n).length (fun j => is.getD (kq ks n j) 0) ∧
    ((aA = none ∧ (Plain.kp ks n).length = n) ∨ ∃ bA, aA = some ⟨bA, 0, none⟩ ∧ LA = (Plain.kp ks n).length ∧ IntsF w' .i64 aA (Plain.kp ks n).length (fun j => (kq ks n j : Int))) ∧ Below W.heap.size W w'

theorem Ints.toF {w : World} {k : IntKind} {a : Option Addr} {n : Nat} {zs : List Int} (h : Ints w k a n zs) {f : Nat → Int} (hf : ∀ j, j < n → zs.getD j 0 = f j) : IntsF w k a n f := by
  intro hn
  obtain ⟨g, off, ha, hc⟩ := h hn
  exact ⟨g, off, ha, fun j hj => by rw [← hf j hj]; exact hc j hj⟩
theorem Strs.toF {w : World} {a : Option Addr} {n : Nat} {ss : List ByteArray} (h : Strs w a n ss) {f : Nat → ByteArray} (hf : ∀ j, j < n → ss.getD j ByteArray.empty = f j) : StrsF w a n f := by
  intro hn
  obtain ⟨g, off, ha, hc⟩ := h hn
  exact ⟨g, off, ha, fun j hj => by rw [← hf j hj]; exact hc j hj⟩

/-- Where no operation is a lock's and every transaction is used, the given slices are what is to be handed back. -/
theorem endsZ_all {W w' : World} {n nt cK cT cX cI : Nat} {aK aT aX aI : Option Addr} {items : Int} {ks xs is : List Int} {ts : List ByteArray} (hall : (Plain.kp ks n).length = n) (hu : ∀ t, t < nt → Plain.used ks xs n t = true)
    (hR : ∀ j, j < n → 0 ≤ xs.getD j 0 ∧ xs.getD j 0 < nt) (hK : Ints w' .u8 aK n ks) (hT : Strs w' aT nt ts) (hX : Ints w' .i64 aX n xs) (hI : Ints w' .i64 aI n is) (hb : Below W.heap.size W w') :
    EndsZ W n nt items ks xs is ts (.returned (.tuple #[.slice aK n cK, .slice aT nt cT, .slice aX n cX, .slice aI n cI, .int .i64 items, .slice none 0 0, .bool true])) w' := by
  have hkp := Plain.kp_all ks n hall
  have hus := Plain.us_all ks xs n nt nt hu (Nat.le_refl _)
  have hq : ∀ j, j < n → kq ks n j = j := by intro j hj; simp [kq, hkp, List.getD, hj]
  unfold EndsZ
  have hul : (Plain.us ks xs n nt).length = nt := by rw [hus, List.length_range]
  rw [hall, hul]
  refine ⟨aK, cK, aT, cT, aX, cX, aI, cI, none, 0, 0, rfl, hK.toF (fun j hj => by rw [hq j hj]), hT.toF (fun j hj => by simp [fT, hus, List.getD, hj]), hX.toF (fun j hj => ?_), hI.toF (fun j hj => by rw [hq j hj]), .inl ⟨rfl, rfl⟩, hb⟩
  unfold fX
  rw [hq j hj]
  obtain ⟨h0, h1⟩ := hR j hj
  rw [Plain.rk_all ks xs n nt _ hu (by omega)]
  omega

theorem T_form {w : World} {B u : Nat} {T : Value} {vs : List Value} (h : w.ownsRow B 34 1 T u vs) : ∃ a c, T = .slice a u c ∧ (∀ f : Nat → ByteArray, (∀ j, j < u → vs[j]? = some (.string (f j))) → StrsF w a u f) := by
  obtain ⟨hl, h1 | ⟨g, cap, cur, hv, hB, hh, hc, hm, hs, ht⟩⟩ := h
  · obtain ⟨rfl, rfl⟩ := h1
    exact ⟨none, 0, rfl, fun f _ hn => absurd hn (by omega)⟩
  · subst hv
    refine ⟨_, cap, rfl, fun f hf _ => ⟨g, 0, rfl, fun j hj => ?_⟩⟩
    rw [Nat.zero_add]
    have ho : w.ownsRow B 34 1 (.slice (some ⟨g, 0, none⟩) u cap) u vs := ⟨hl, .inr ⟨g, cap, cur, rfl, hB, hh, hc, hm, hs, ht⟩⟩
    exact (World.ownsRow.cellAt ho j (by omega)).trans (hf j hj)

theorem endsZ_some {W W1 w' : World} {n nt L bX bI bA bR : Nat} {T : Value} {items : Int} {ks xs is : List Int} {ts : List ByteArray} (hL : L = (Plain.kp ks n).length) {aT : Option Addr} {cT : Nat} (hT : T = .slice aT (Plain.us ks xs n nt).length cT)
    (hTs : ∀ f : Nat → ByteArray, (∀ j, j < (Plain.us ks xs n nt).length → (vS ts (Plain.us ks xs n nt))[j]? = some (.string (f j))) → StrsF w' aT (Plain.us ks xs n nt).length f)
    (O : Own W1.heap.size (W1.heap.size + 1) W1.heap.size bX bI bA bR T L L L L L (Plain.us ks xs n nt).length nt items
      (vK ks (Plain.kp ks n)) (rowX ks xs n L) (vZ is (Plain.kp ks n)) (vP (Plain.kp ks n)) (vS ts (Plain.us ks xs n nt)) (rowR nt (Plain.f3 ks xs n nt)) w') (hb : Below W.heap.size W w') :
    EndsZ W n nt items ks xs is ts (.returned (.tuple #[.slice (some ⟨W1.heap.size, 0, none⟩) L L, T, .slice (some ⟨bX, 0, none⟩) L L, .slice (some ⟨bI, 0, none⟩) L L, .int .i64 items, .slice (some ⟨bA, 0, none⟩) L L, .bool true])) w' := by
  subst hL
  unfold EndsZ
  refine ⟨_, _, aT, cT, _, _, _, _, _, _, _, by rw [hT], IntsF.of_rw O.K ?_, hTs _ ?_, IntsF.of_rw O.X ?_, IntsF.of_rw O.I ?_, .inr ⟨bA, rfl, rfl, IntsF.of_rw O.A ?_⟩, hb⟩
  · intro j hj; simp [vK, kq, List.getD, hj]
  · intro j hj; simp [vS, fT, List.getD, hj]
  · intro j hj; simp [rowX, fX, kq, hj]
  · intro j hj; simp [vZ, kq, List.getD, hj]
  · intro j hj; simp [vP, kq, List.getD, hj]

theorem endsZ_drew {W w : World} {n nt : Nat} {items : Int} {ks xs is : List Int} {ts : List ByteArray} {e : Ending} (h : EndsZ W n nt items ks xs is ts e w) (k : Nat) : EndsZ W n nt items ks xs is ts e (w.drewN k) := by
  obtain ⟨aK, cK, aT, cT, aX, cX, aI, cI, aA, LA, cA, h1, h2, h3, h4, h5, h6, h7⟩ := h
  exact ⟨aK, cK, aT, cT, aX, cX, aI, cI, aA, LA, cA, h1, h2, h3, h4, h5, h6, below_drewN h7 k⟩

set_option maxRecDepth 100000 in
set_option maxHeartbeats 1000000 in
theorem zz (aK aT aX aI : Option Addr) (cK cT cX cI n nt : Nat) (ks xs is : List Int) (ts : List ByteArray) (items : Int) (W : World) (hn : n ≤ 65537) (hnt : nt ≤ 65536)
    (HK : Hid (Ints W .u8 aK n ks)) (HT : Hid (Strs W aT nt ts)) (HX : Hid (Ints W .i64 aX n xs)) (HI : Hid (Ints W .i64 aI n is))
    (HR : Hid (∀ j, j < n → Plain.lock (ks.getD j 0) = false → 0 ≤ xs.getD j 0 ∧ xs.getD j 0 < nt)) (HA : Hid ((Plain.kp ks n).length = n → ∀ t, t < nt → Plain.used ks xs n t = true)) :
    Calls Try.prog 7 #[.slice aK n cK, .slice aT nt cT, .slice aX n cX, .slice aI n cI, .int .i64 items, .slice none 0 0] W fun e w' => EndsZ W n nt items ks xs is ts e w' := by
  have hbW : ∀ o, Below W.heap.size W (W.alloc o) := fun o => (Below.refl _ _).alloc (Nat.le_refl _) o
  by_cases hall : (Plain.kp ks n).length = n
  · have HE : Hid (∀ w', Below W.heap.size W w' → EndsZ W n nt items ks xs is ts (.returned (.tuple #[.slice aK n cK, .slice aT nt cT, .slice aX n cX, .slice aI n cI, .int .i64 items, .slice none 0 0, .bool true])) w') := by
      intro w' hb
      refine endsZ_all hall (HA.out hall) (fun j hj => HR.out j hj ?_) (HK.out.kept hb) (HT.out.kept hb) (HX.out.kept hb) (HI.out.kept hb) hb
      have : j ∈ Plain.kp ks n := by rw [Plain.kp_all ks n hall]; exact List.mem_range.2 hj
      exact (Plain.kp_mem.1 this).2
    have Hall := hid hall
    clear hall
    go_enter Try.func7, Try.ntmps7
    go_wp2_with (go_at_call 11; refine (wl_none W.heap.size n cK aK ks _ hn (by simp) (hid (HK.out.kept (hbW _))) Hall).mono ?_; rintro e w1 ⟨rfl, hw1⟩; obtain rfl := hw1.symm)
    go_quiet (fail)
    go_wp2
    exact bodyPost_ret (v := .tuple #[.slice aK n cK, .slice aT nt cT, .slice aX n cX, .slice aI n cI, .int .i64 items, .slice none 0 0, .bool true]) (by simp [results, Try.results7, go_sem]) rfl (HE.out _ (below_drewN (hbW _) _))
  · have hlt : (Plain.kp ks n).length < n := by have := Plain.kp_len_le ks n; omega
    obtain ⟨gK, oK, rfl, hcK⟩ := HK.out (by omega)
    obtain ⟨gX, oX, rfl, hcX⟩ := HX.out (by omega)
    obtain ⟨gI, oI, rfl, hcI⟩ := HI.out (by omega)
    obtain ⟨W1, hW1⟩ : ∃ W1, W1 = W.alloc (Obj.cells #[Value.slice (some ⟨gK, oK, none⟩) n cK, Value.slice aT nt cT, Value.slice (some ⟨gX, oX, none⟩) n cX, Value.slice (some ⟨gI, oI, none⟩) n cI, Value.int IntKind.i64 items, Value.slice none 0 0] 39) := ⟨_, rfl⟩
    have hb1 : Below W.heap.size W W1 := by rw [hW1]; exact hbW _
    have hst : W1.heap[W.heap.size]? = some (.cells #[Value.slice (some ⟨gK, oK, none⟩) n cK, Value.slice aT nt cT, Value.slice (some ⟨gX, oX, none⟩) n cX, Value.slice (some ⟨gI, oI, none⟩) n cI, Value.int IntKind.i64 items, Value.slice none 0 0] 39) := by rw [hW1]; exact heap_alloc_new W _
    have C := hid (wl_some W.heap.size n nt gK oK cK gX oX cX gI oI cI cT aT ks xs is ts items W1 (by omega) hn hnt (cell_st hst) (cell_st hst) (cell_st hst) (cell_st hst) (cell_st hst) (cell_st hst)
      (fun j hj => (hb1.cell (World.block_lt_of_cell? _ _ (hcK j hj))).trans (hcK j hj)) (fun j hj => (hb1.cell (World.block_lt_of_cell? _ _ (hcX j hj))).trans (hcX j hj)) (fun j hj => (hb1.cell (World.block_lt_of_cell? _ _ (hcI j hj))).trans (hcI j hj))
      (fun j hj => by obtain ⟨g, off, ha, hc⟩ := HT.out (by omega); exact ⟨g, off, ha, (hb1.cell (World.block_lt_of_cell? _ _ (hc j hj))).trans (hc j hj)⟩) HR hlt)
    have HW1 := hid hW1
    clear hW1 hst hall HA hbW hcK hcX hcI HK HT HX HI HR
    go_enter Try.func7, Try.ntmps7
    go_wp2_with fail
    rw [← HW1.out]
    refine C.out.mono ?_
    rintro e w2 ⟨rfl, bX, bI, bA, bR, T, O, hb2⟩
    obtain ⟨aT', cT', hT, hTs⟩ := T_form O.T
    have hbb : Below W.heap.size W w2 := hb1.trans (hb2.mono hb1.size)
    have Z : Hid (∀ k, EndsZ W n nt items ks xs is ts (.returned (.tuple #[.slice (some ⟨W1.heap.size, 0, none⟩) (Plain.kp ks n).length (Plain.kp ks n).length, T, .slice (some ⟨bX, 0, none⟩) (Plain.kp ks n).length (Plain.kp ks n).length, .slice (some ⟨bI, 0, none⟩) (Plain.kp ks n).length (Plain.kp ks n).length, .int .i64 items, .slice (some ⟨bA, 0, none⟩) (Plain.kp ks n).length (Plain.kp ks n).length, .bool true])) (w2.drewN k)) := by
      intro k
      refine endsZ_drew (endsZ_some rfl hT hTs O hbb) k
    have q0 := cell_st (i := 0) O.st
    have q1 := cell_st (i := 1) O.st
    have q2 := cell_st (i := 2) O.st
    have q3 := cell_st (i := 3) O.st
    have q4 := cell_st (i := 4) O.st
    have q5 := cell_st (i := 5) O.st
    simp at q0 q1 q2 q3 q4 q5
    generalize (Plain.kp ks n).length = L at *
    clear O hT hTs hbb hb2 C HW1 hb1
    go_wp2
    go_quiet (fail)
    go_wp2
    exact bodyPost_ret (v := .tuple #[.slice (some ⟨W1.heap.size, 0, none⟩) L L, T, .slice (some ⟨bX, 0, none⟩) L L, .slice (some ⟨bI, 0, none⟩) L L, .int .i64 items, .slice (some ⟨bA, 0, none⟩) L L, .bool true]) (by simp [results, Try.results7, go_sem]) rfl (Z.out _)
end Go.Proofs.Qxb6619397a
