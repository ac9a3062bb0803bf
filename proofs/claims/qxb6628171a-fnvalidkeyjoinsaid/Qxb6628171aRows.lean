/-
  No cell of these rows narrows 'for every input' (looked for: loops, veiled, ifaces, maps, wideKeys, modest, calm, conditions, laid).
  DERIVED. THE GIVEN ROWS OF THIS SEAT. 1 by the template 'for every input the law returns true; each argument reads behind the call as it read before'; 0 by the template 'total and deterministic' (their statements: Qxb6628171aTotals.lean).
  GIVEN WITH THE SEED: the statements are not yours to turn. If you find one false, say at which input.
  Laid BY PROGRAM, IN A SANDBOX (cutbox-rows.mjs): the forced cells as the released guide's own fill.sh prints them over the translation cefc619c969abf6e… (all of the seat's roots in one cut). By AI agents, Wed Nov 11 2026. No macro, syntax, notation, axiom, sorry.
-/
import Derived.Test.Qxb6628171aChecked
import GoSem.Claim
import GoSem.ClaimJoined
import GoSem.ClaimMapViews
import Derived.JoinedTies
import Derived.KernelRfl
namespace Go.Proofs.Qxb6628171a
/- THE CELL 'sum', in the pinned program and in every row, IS THE sha256 OF THE DUMP (.gsa) THAT Qxb6628171aProg.lean LOADS. Nothing in Lean hashes anything: it is a label: what it is worth is what the hold of that sum in a sandbox is worth. -/
noncomputable def Try.pinned : Pinned := { name := "qxb6628171a", sum := "cefc619c969abf6efa6c554542f8a35db0de451c75e75447b957fabe29e8ea49", checked := Try.checked }
namespace Rows
def none {H : Type} : Left H := { results := [], args := [] }

/-- 'zzlaws_flagset_b1.FnValidKeyJoin': WHATEVER THE INPUT: true; the input reads as it did. -/
def fnValidKeyJoinSpec : ChangeSpec := { name := "fnValidKeyJoin", fn := fun _ => fun
  | [d1, d2] => { results := [.lit (.bool true)], args := [d1, d2] }
  | _ => none }
def fnValidKeyJoinRow : OpenClaim := { program := "qxb6628171a", sum := "cefc619c969abf6efa6c554542f8a35db0de451c75e75447b957fabe29e8ea49", func := "example.com/rampwell/rampwell/zzlaws_flagset_b1.FnValidKeyJoin", spec := "fnValidKeyJoin", apart := false }
def FnValidKeyJoinSaid : Prop := fnValidKeyJoinRow.holds Try.pinned (OpenSpec.ofChange fnValidKeyJoinSpec)

/-- ITS FALSE NEIGHBOUR: 'it returns false'. Refute it at one input. -/
def fnValidKeyJoinWrong : ChangeSpec := { name := "fnValidKeyJoin", fn := fun _ => fun
  | [d1, d2] => { results := [.lit (.bool false)], args := [d1, d2] }
  | _ => none }
def FnValidKeyJoinWrongFalsely : Prop := fnValidKeyJoinRow.holds Try.pinned (OpenSpec.ofChange fnValidKeyJoinWrong)

end Rows
end Go.Proofs.Qxb6628171a
