/-
  DERIVED. GIVEN WITH THE SEED: THE CARDS: each row of Qxb6621643aDoorRows.lean that lists a variable, with what it lists TIED to the program's text (the seventh form; the later family's looks); each row that meets fmt, with fmt's text TOLD by the authors' own Lean function (tested against real Go, not proved from fmt's source: count such statements apart). THE CARD IS WHAT COUNTS. Prove the row's statement (the work); the ties are given (Qxb6621643aDoorTie.lean); close each card by the builder's one call (the guide's Derived/Test/ToyasCard.lean, 'card_holds'). Laid BY PROGRAM, IN A SANDBOX (cutbox-door.mjs). By AI agents, Wed Nov 11 2026. No macro, syntax, notation, axiom, sorry.
-/
import Derived.Test.Qxb6621643aDoorRows
import GoSem.ClaimSeven
namespace Go.Proofs.Qxb6621643aDoor
namespace Rows

/-- THE TIED CARD OF 'zzlaws_internal_testinput_b1.FnCacheNamesPrefixAndParseBack'. -/
def fnCacheNamesPrefixAndParseBackCard : Claim7 := { stood := { row := fnCacheNamesPrefixAndParseBackRow, standIns := [], harness := (true, "955b14a789edb7ec93f26caf218a170d68789d658b70471511fb7c2cc876563c"), looks := false }, kinds := [], alts := [], laidByText := true, laidKinds := [.data, .data, .data], laidTests := true, laidLooks := .later }
def FnCacheNamesPrefixAndParseBackCardSaid : Prop := Claim7.holds Tryd.pinned (.plain (OpenSpec.ofChange fnCacheNamesPrefixAndParseBackSpec)) fnCacheNamesPrefixAndParseBackCard
end Rows
end Go.Proofs.Qxb6621643aDoor
