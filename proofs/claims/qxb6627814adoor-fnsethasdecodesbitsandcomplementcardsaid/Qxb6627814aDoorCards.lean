/-
  DERIVED. GIVEN WITH THE SEED: THE CARDS: each row of Qxb6627814aDoorRows.lean that lists a variable, with what it lists TIED to the program's text (the seventh form; the later family's looks); each row that meets fmt, with fmt's text TOLD by the authors' own Lean function (tested against real Go, not proved from fmt's source: count such statements apart). THE CARD IS WHAT COUNTS. Prove the row's statement (the work); the ties are given (Qxb6627814aDoorTie.lean); close each card by the builder's one call (the guide's Derived/Test/ToyasCard.lean, 'card_holds'). Laid BY PROGRAM, IN A SANDBOX (cutbox-door.mjs). By AI agents, Wed Nov 11 2026. No macro, syntax, notation, axiom, sorry.
-/
import Derived.Test.Qxb6627814aDoorRows
import GoSem.ClaimSeven
namespace Go.Proofs.Qxb6627814aDoor
namespace Rows

/-- THE TIED CARD OF 'zzlaws_internal_permission_b1.FnSetHasMatchesNameTableAndUnion'. -/
def fnSetHasMatchesNameTableAndUnionCard : Claim7 := { stood := { row := fnSetHasMatchesNameTableAndUnionRow, standIns := [], harness := (true, "826f48c884d9098b8aacc6371ac88535b72d5a03350ac1cd60ee81a63881eecc"), looks := false }, kinds := [], alts := [], laidByText := true, laidKinds := [.widerDeep], laidTests := true, laidLooks := .later }
def FnSetHasMatchesNameTableAndUnionCardSaid : Prop := Claim7.holds Tryd.pinned (.plain (OpenSpec.ofChange fnSetHasMatchesNameTableAndUnionSpec)) fnSetHasMatchesNameTableAndUnionCard

/-- THE TIED CARD OF 'zzlaws_internal_permission_b1.FnSetHasDecodesBitsAndComplement'. -/
def fnSetHasDecodesBitsAndComplementCard : Claim7 := { stood := { row := fnSetHasDecodesBitsAndComplementRow, standIns := [], harness := (true, "826f48c884d9098b8aacc6371ac88535b72d5a03350ac1cd60ee81a63881eecc"), looks := false }, kinds := [], alts := [], laidByText := true, laidKinds := [.widerDeep], laidTests := true, laidLooks := .later }
def FnSetHasDecodesBitsAndComplementCardSaid : Prop := Claim7.holds Tryd.pinned (.plain (OpenSpec.ofChange fnSetHasDecodesBitsAndComplementSpec)) fnSetHasDecodesBitsAndComplementCard
end Rows
end Go.Proofs.Qxb6627814aDoor
