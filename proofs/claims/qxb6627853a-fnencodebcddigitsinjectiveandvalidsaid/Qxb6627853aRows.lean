/-
  No cell of these rows narrows 'for every input' (looked for: loops, veiled, ifaces, maps, wideKeys, modest, calm, conditions, laid).
  DERIVED. THE GIVEN ROWS OF THIS SEAT. 2 by the template 'for every input the law returns true; each argument reads behind the call as it read before'; 0 by the template 'total and deterministic' (their statements: Qxb6627853aTotals.lean).
  GIVEN WITH THE SEED: the statements are not yours to turn. If you find one false, say at which input.
  Laid BY PROGRAM, IN A SANDBOX (cutbox-rows.mjs): the forced cells as the released guide's own fill.sh prints them over the translation 7e918ff3de507c75… (all of the seat's roots in one cut). By AI agents, Wed Nov 11 2026. No macro, syntax, notation, axiom, sorry.
-/
import Derived.Test.Qxb6627853aChecked
import GoSem.Claim
import GoSem.ClaimJoined
import GoSem.ClaimMapViews
import Derived.JoinedTies
import Derived.KernelRfl
namespace Go.Proofs.Qxb6627853a
/- THE CELL 'sum', in the pinned program and in every row, IS THE sha256 OF THE DUMP (.gsa) THAT Qxb6627853aProg.lean LOADS. Nothing in Lean hashes anything: it is a label: what it is worth is what the hold of that sum in a sandbox is worth. -/
noncomputable def Try.pinned : Pinned := { name := "qxb6627853a", sum := "7e918ff3de507c753dc2d5ad034aaf6bfa71c916bd11d4873c7cd9e9693f847b", checked := Try.checked }
namespace Rows
def none {H : Type} : Left H := { results := [], args := [] }

/-- 'zzlaws_nas_b1.FnEncodeBCDNibblesSurviveAnyCut': WHATEVER THE INPUT: true; the input reads as it did. -/
def fnEncodeBCDNibblesSurviveAnyCutSpec : ChangeSpec := { name := "fnEncodeBCDNibblesSurviveAnyCut", fn := fun _ => fun
  | [d1, d2] => { results := [.lit (.bool true)], args := [d1, d2] }
  | _ => none }
def fnEncodeBCDNibblesSurviveAnyCutRow : OpenClaim := { program := "qxb6627853a", sum := "7e918ff3de507c753dc2d5ad034aaf6bfa71c916bd11d4873c7cd9e9693f847b", func := "example.com/cellproof/cellproof/zzlaws_nas_b1.FnEncodeBCDNibblesSurviveAnyCut", spec := "fnEncodeBCDNibblesSurviveAnyCut", apart := false }
def FnEncodeBCDNibblesSurviveAnyCutSaid : Prop := fnEncodeBCDNibblesSurviveAnyCutRow.holds Try.pinned (OpenSpec.ofChange fnEncodeBCDNibblesSurviveAnyCutSpec)

/-- ITS FALSE NEIGHBOUR: 'it returns false'. Refute it at one input. -/
def fnEncodeBCDNibblesSurviveAnyCutWrong : ChangeSpec := { name := "fnEncodeBCDNibblesSurviveAnyCut", fn := fun _ => fun
  | [d1, d2] => { results := [.lit (.bool false)], args := [d1, d2] }
  | _ => none }
def FnEncodeBCDNibblesSurviveAnyCutWrongFalsely : Prop := fnEncodeBCDNibblesSurviveAnyCutRow.holds Try.pinned (OpenSpec.ofChange fnEncodeBCDNibblesSurviveAnyCutWrong)

/-- 'zzlaws_nas_b1.FnEncodeBCDDigitsInjectiveAndValid': WHATEVER THE INPUT: true; the input reads as it did. -/
def fnEncodeBCDDigitsInjectiveAndValidSpec : ChangeSpec := { name := "fnEncodeBCDDigitsInjectiveAndValid", fn := fun _ => fun
  | [d1, d2] => { results := [.lit (.bool true)], args := [d1, d2] }
  | _ => none }
def fnEncodeBCDDigitsInjectiveAndValidRow : OpenClaim := { program := "qxb6627853a", sum := "7e918ff3de507c753dc2d5ad034aaf6bfa71c916bd11d4873c7cd9e9693f847b", func := "example.com/cellproof/cellproof/zzlaws_nas_b1.FnEncodeBCDDigitsInjectiveAndValid", spec := "fnEncodeBCDDigitsInjectiveAndValid", apart := false }
def FnEncodeBCDDigitsInjectiveAndValidSaid : Prop := fnEncodeBCDDigitsInjectiveAndValidRow.holds Try.pinned (OpenSpec.ofChange fnEncodeBCDDigitsInjectiveAndValidSpec)

/-- ITS FALSE NEIGHBOUR: 'it returns false'. Refute it at one input. -/
def fnEncodeBCDDigitsInjectiveAndValidWrong : ChangeSpec := { name := "fnEncodeBCDDigitsInjectiveAndValid", fn := fun _ => fun
  | [d1, d2] => { results := [.lit (.bool false)], args := [d1, d2] }
  | _ => none }
def FnEncodeBCDDigitsInjectiveAndValidWrongFalsely : Prop := fnEncodeBCDDigitsInjectiveAndValidRow.holds Try.pinned (OpenSpec.ofChange fnEncodeBCDDigitsInjectiveAndValidWrong)

end Rows
end Go.Proofs.Qxb6627853a
