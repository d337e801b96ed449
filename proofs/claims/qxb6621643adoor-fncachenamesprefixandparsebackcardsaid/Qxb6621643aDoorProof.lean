/-
  Seat b6621643aD: THE ROW PROVED, AND THE TIED CARD.
-/
import Derived.Test.Qxb6621643aDoorLaw
import Derived.Test.Qxb6621643aDoorTie
import Derived.Test.Qxb6621643aDoorCards
import Derived.ProofKit
import Derived.LaidMore
import Derived.OpenShut
import Derived.Stop.Joined
import Derived.Lib.LaidTab
import Derived.SevenTiedAt
namespace Go.Proofs.Qxb6621643aDoor
open Go.ChangeShapes Go.WideShapes Go.ChangeAt Go.WideMaps Go.WideElems Go.RowKit

theorem own : ownKnob Tryd.prog.godebug = none := by kernel_rfl
theorem laidOut : laidOutB Tryd.prog = true := by kernel_rfl

/-- What the row lists. -/
abbrev laid3 : List (String × DataW Unit) := Rows.fnCacheNamesPrefixAndParseBackRow.laid

/-- The door's own heap meets the condition. -/
theorem door_met (os : Os) (args : Array Value) : laidMetH Tryd.prog laid3 ((World.doorLaid Tryd.prog 400 os).forCall (fun _ _ => 0) ⟨#[], args, []⟩).memory :=
  laidMetH_of_parts3 (fuel := 8) (laidMet_of_run' 8 (by kernel_rfl) (by kernel_rfl)) (by kernel_rfl) (by kernel_rfl)

theorem tab_t : (Tryd.prog.globals[0]?).map (·.type) = some 37 := by kernel_rfl
theorem cells37 : Tryd.prog.cellsOf 37 = 20 := by kernel_rfl
theorem cells29 : Tryd.prog.cellsOf 29 = 1 := by kernel_rfl

theorem drop_two {P : Program} {a b x : String × DataW Unit} {W : World} (h : laidMet P [a, b, x] W) : laidMet P [x] W := by
  obtain ⟨ps, hv, hnd, hrows⟩ := h
  obtain ⟨n, d⟩ := a
  obtain ⟨g, t, cs, fuel, p, q, _, _, _, _, hq, rfl⟩ := hv
  obtain ⟨n2, d2⟩ := b
  obtain ⟨g2, t2, cs2, fuel2, p2, q2, _, _, _, _, hq2, rfl⟩ := hq
  have n1 := List.Nodup.sublist (List.sublist_append_right _ _) hnd
  exact ⟨q2, hq2, List.Nodup.sublist (List.sublist_append_right _ _) n1, fun b off hm => hrows b off (List.mem_append_right _ (List.mem_append_right _ hm))⟩

theorem tab_of {W : World} (h : laidMetH Tryd.prog laid3 W) : Lib.TabIs Tryd.prog W tabName .u64 Lib.pow10Tab := by
  rw [MakeChecks.laidMetH_plain _ _ _ (by kernel_rfl)] at h
  have h1 := drop_two h
  have e : (Rows.laid_internal_strconv_uint64pow10 : DataW Unit) = Lib.tabData .u64 Lib.pow10Tab := by kernel_rfl
  rw [e] at h1
  exact Lib.tabIs_of_head tab_g tab_t Tryd.underlying37 Tryd.underlying29 cells29 cells37 h1

theorem tab_pos {W : World} (h : Lib.TabIs Tryd.prog W tabName .u64 Lib.pow10Tab) : 0 < W.heap.size := by
  unfold Lib.TabIs World.var? at h
  rw [tab_g] at h
  rcases Nat.lt_or_ge 0 W.heap.size with h0 | h0
  · exact h0
  · rw [Option.bind_some, Array.getElem?_eq_none h0] at h
    cases h

theorem walk (n m : Int) (W : World) (ht : Lib.TabIs Tryd.prog W tabName .u64 Lib.pow10Tab) :
    Calls Tryd.prog 3 #[.int .i64 n, .int .i64 m] W fun e w' => e = .returned (.bool true) ∧ Below W.heap.size W w' := by
  by_cases h : n < 0 ∨ 65536 < n
  · exact out_n n m W h
  by_cases h2 : m < 0 ∨ 65536 < m
  · exact out_m n m W (by omega) (by omega) h2
  obtain ⟨n', rfl⟩ := Int.eq_ofNat_of_zero_le (show 0 ≤ n by omega)
  obtain ⟨m', rfl⟩ := Int.eq_ofNat_of_zero_le (show 0 ≤ m by omega)
  exact inside n' m' W (by omega) (by omega) (tab_pos ht) ht

set_option maxRecDepth 100000 in
theorem lifted (os : Os) (started : os.Started) (H : Type) (enc : TypeId × Value → H) :
    ReturnsInHanded {} Tryd.checked os 3 .any (fun w args => (Rows.fnCacheNamesPrefixAndParseBackSpec.pre enc Tryd.prog Tryd.f3 [] false w args ∧ laidMetH Tryd.prog laid3 w) ∧ sizedMet enc Tryd.prog Tryd.f3 (OpenSpec.ofChange Rows.fnCacheNamesPrefixAndParseBackSpec) false w args)
      (Rows.fnCacheNamesPrefixAndParseBackSpec.post enc Tryd.prog Tryd.f3 false true false false) := by
  refine returnsInHanded_of_change_and (C := Tryd.checked) (X := fun w _ => laidMetH Tryd.prog laid3 w) (fun _ _ _ hh h => h.of_heap hh) own started (by kernel_rfl) Tryd.func3
    (ChangeSpec.witness_shaped (enc := enc) (C := Tryd.checked) (os := os) (X := fun w _ => laidMetH Tryd.prog laid3 w) false (World.doorLaid Tryd.prog 400 os) #[.int .i64 0, .int .i64 0] 8 rfl (World.shaped_of_RefB (by kernel_rfl) (by kernel_rfl)) (by kernel_rfl) (by kernel_rfl) (by kernel_rfl) (door_met os _)) ?_
  intro W base args ds gs before hval0 hW _ _ hL _
  have hval : ∀ (j : Nat) t v, Tryd.f3.params[j]? = some t → args[j]? = some v → Value.okWide Tryd.prog W .any base t v := hval0
  have hW' := hW
  obtain ⟨p, q, hA0, hV, rfl, hfz, hnd⟩ := hW
  have hA : DataW.TrodAll enc Tryd.prog W 0 (fun _ => true) true Tryd.f3.params.toList args.toList ds p := hA0
  rw [Tryd.params3] at hA hval
  obtain ⟨v0, v1, d0, d1, p0, p1, rfl, rfl, rfl, h0, h1⟩ := trodAll_two hA
  obtain ⟨rfl, rfl⟩ := trodVars_none hV
  obtain ⟨n, rfl, rfl, rfl, hwn⟩ := open_int Tryd.underlying3 (hval 0 3 v0 rfl rfl) h0
  obtain ⟨m, rfl, rfl, rfl, hwm⟩ := open_int Tryd.underlying3 (hval 1 3 v1 rfl rfl) h1
  clear hA0 hval0
  refine (walk n m W (tab_of hL)).mono fun e W' ⟨he, bel⟩ => ?_
  subst he
  exact ⟨_, rfl, _, _, _, [], _, [], hW', trodAll_mk1 (shut_bool Tryd.underlying4 _), trodAll_mk2 (shut_int Tryd.underlying3 hwn) (shut_int Tryd.underlying3 hwm), rfl, bel.frame _, fun h => by cases h⟩

theorem row_holds : Rows.FnCacheNamesPrefixAndParseBackSaid :=
  OpenClaim.holds_of_wide 3 Tryd.f3 rfl rfl rfl rfl rfl rfl rfl ⟨rfl, rfl, rfl, rfl, rfl⟩ rfl rfl rfl rfl rfl (by kernel_rfl) Tryd.func3 (by kernel_rfl)
    (of_decide_eq_true (by kernel_rfl)) (by unfold Func.isWrapper; first | (rw [if_pos (by decide +kernel)]; kernel_rfl) | (rw [if_neg (by decide +kernel)]; exact ⟨rfl, rfl⟩))
    (fun os started H enc _ => lifted os started H enc)

theorem card_holds : Rows.FnCacheNamesPrefixAndParseBackCardSaid :=
  Claim7.holds_tied_plain_at .later [] [.data, .data, .data] true (true, "955b14a789edb7ec93f26caf218a170d68789d658b70471511fb7c2cc876563c") false
    row_holds (fun _ h => by cases h) (by kernel_rfl) (fun _ h => by cases h) fnCacheNamesPrefixAndParseBack_row_tie rfl ⟨rfl, rfl⟩ (by kernel_rfl) rfl
    (fun f fn hf hfn => by
      obtain rfl : f = 3 := Option.some.inj ((show Tryd.prog.funcNamed Rows.fnCacheNamesPrefixAndParseBackRow.func = some 3 by kernel_rfl).symm.trans hf) |>.symm
      obtain rfl : fn = Tryd.f3 := (Option.some.inj (Tryd.func3.symm.trans hfn)).symm
      exact ⟨by kernel_rfl, fun j t ht => by
        rw [Tryd.params3] at ht
        have hm : t ∈ [3, 3] := by simpa using Array.mem_of_getElem? ht
        have hall : ([3, 3].all fun u => !Tryd.prog.wantsStandIn u) = true := by kernel_rfl
        exact (show Tryd.prog.wantsStandIn t = false by simpa using List.all_eq_true.1 hall t hm)⟩)
    (by kernel_rfl)
end Go.Proofs.Qxb6621643aDoor
