/-
  NARROWER THAN 'FOR EVERY INPUT', by the rows' own cells (each row's printed sentence says how): FnSetHasMatchesNameTableAndUnion: laid · FnSetHasDecodesBitsAndComplement: laid.
  DERIVED. THE GIVEN ROWS OF THIS SEAT. 2 by the template 'for every input the law returns true; each argument reads behind the call as it read before'; 0 by the template 'total and deterministic' (their statements: Qxb6627814aDoorTotals.lean).
  GIVEN WITH THE SEED: the statements are not yours to turn. If you find one false, say at which input.
  Laid BY PROGRAM, IN A SANDBOX (cutbox-rows.mjs): the forced cells as the released guide's own fill.sh prints them over the translation f9cc93d9d42bea4c… (all of the seat's roots in one cut). By AI agents, Wed Nov 11 2026. No macro, syntax, notation, axiom, sorry.
-/
import Derived.Test.Qxb6627814aDoorChecked
import GoSem.Claim
import GoSem.ClaimJoined
import GoSem.ClaimMapViews
import Derived.JoinedTies
import Derived.KernelRfl
namespace Go.Proofs.Qxb6627814aDoor
/- THE CELL 'sum', in the pinned program and in every row, IS THE sha256 OF THE DUMP (.gsa) THAT Qxb6627814aDoorProg.lean LOADS. Nothing in Lean hashes anything: it is a label: what it is worth is what the hold of that sum in a sandbox is worth. -/
noncomputable def Tryd.pinned : Pinned := { name := "qxb6627814adoor", sum := "f9cc93d9d42bea4c1ab1571c89af5651f6d6d3cd5df6fd117fa0668b52e20c3a", checked := Tryd.checked }
namespace Rows
def none {H : Type} : Left H := { results := [], args := [] }

/- WHAT THE LISTED PACKAGE-LEVEL VARIABLES READ AS WHEN THE CALL BEGINS. Each datum BY PROGRAM (the guide's laid-datum.mjs) off the statement by which the dump's own 'gosem.cut.vars' lays the variable. In a bare row this is a premise. The card (Qxb6627814aDoorCards.lean) ties it to the program's text. -/
def laid_example_com_melding_melding_internal_permission_order {H : Type} : DataW H := .agg [.lit (.string [82, 69, 80, 79, 82, 84, 95, 67, 79, 78, 84, 69, 78, 84]), .lit (.string [68, 69, 76, 69, 84, 69, 95, 79, 87, 78, 95, 82, 69, 80, 79, 82, 84, 83]), .lit (.string [77, 65, 78, 65, 71, 69, 95, 82, 69, 80, 79, 82, 84, 83]), .lit (.string [77, 65, 78, 65, 71, 69, 95, 82, 69, 65, 83, 79, 78, 83])]

/-- 'zzlaws_internal_permission_b1.FnSetHasMatchesNameTableAndUnion': WHATEVER THE INPUT: true; the input reads as it did. -/
def fnSetHasMatchesNameTableAndUnionSpec : ChangeSpec := { name := "fnSetHasMatchesNameTableAndUnion", vars := ["example.com/melding/melding/internal/permission.order"], fn := fun _ => fun
  | [d1, d2, d3, g1] => { results := [.lit (.bool true)], args := [d1, d2, d3], vars := [g1] }
  | _ => none }
def fnSetHasMatchesNameTableAndUnionRow : OpenClaim := { program := "qxb6627814adoor", sum := "f9cc93d9d42bea4c1ab1571c89af5651f6d6d3cd5df6fd117fa0668b52e20c3a", func := "example.com/melding/melding/zzlaws_internal_permission_b1.FnSetHasMatchesNameTableAndUnion", spec := "fnSetHasMatchesNameTableAndUnion", named := ["example.com/melding/melding/internal/permission.order"], apart := false, laid := [("example.com/melding/melding/internal/permission.order", laid_example_com_melding_melding_internal_permission_order)] }
def FnSetHasMatchesNameTableAndUnionSaid : Prop := fnSetHasMatchesNameTableAndUnionRow.holds Tryd.pinned (OpenSpec.ofChange fnSetHasMatchesNameTableAndUnionSpec)

/-- ITS FALSE NEIGHBOUR: 'it returns false'. Refute it at one input. -/
def fnSetHasMatchesNameTableAndUnionWrong : ChangeSpec := { name := "fnSetHasMatchesNameTableAndUnion", vars := ["example.com/melding/melding/internal/permission.order"], fn := fun _ => fun
  | [d1, d2, d3, g1] => { results := [.lit (.bool false)], args := [d1, d2, d3], vars := [g1] }
  | _ => none }
def FnSetHasMatchesNameTableAndUnionWrongFalsely : Prop := fnSetHasMatchesNameTableAndUnionRow.holds Tryd.pinned (OpenSpec.ofChange fnSetHasMatchesNameTableAndUnionWrong)

/-- 'zzlaws_internal_permission_b1.FnSetHasDecodesBitsAndComplement': WHATEVER THE INPUT: true; the input reads as it did. -/
def fnSetHasDecodesBitsAndComplementSpec : ChangeSpec := { name := "fnSetHasDecodesBitsAndComplement", vars := ["example.com/melding/melding/internal/permission.order"], fn := fun _ => fun
  | [d, g1] => { results := [.lit (.bool true)], args := [d], vars := [g1] }
  | _ => none }
def fnSetHasDecodesBitsAndComplementRow : OpenClaim := { program := "qxb6627814adoor", sum := "f9cc93d9d42bea4c1ab1571c89af5651f6d6d3cd5df6fd117fa0668b52e20c3a", func := "example.com/melding/melding/zzlaws_internal_permission_b1.FnSetHasDecodesBitsAndComplement", spec := "fnSetHasDecodesBitsAndComplement", named := ["example.com/melding/melding/internal/permission.order"], apart := false, laid := [("example.com/melding/melding/internal/permission.order", laid_example_com_melding_melding_internal_permission_order)] }
def FnSetHasDecodesBitsAndComplementSaid : Prop := fnSetHasDecodesBitsAndComplementRow.holds Tryd.pinned (OpenSpec.ofChange fnSetHasDecodesBitsAndComplementSpec)

/-- ITS FALSE NEIGHBOUR: 'it returns false'. Refute it at one input. -/
def fnSetHasDecodesBitsAndComplementWrong : ChangeSpec := { name := "fnSetHasDecodesBitsAndComplement", vars := ["example.com/melding/melding/internal/permission.order"], fn := fun _ => fun
  | [d, g1] => { results := [.lit (.bool false)], args := [d], vars := [g1] }
  | _ => none }
def FnSetHasDecodesBitsAndComplementWrongFalsely : Prop := fnSetHasDecodesBitsAndComplementRow.holds Tryd.pinned (OpenSpec.ofChange fnSetHasDecodesBitsAndComplementWrong)

end Rows
end Go.Proofs.Qxb6627814aDoor
