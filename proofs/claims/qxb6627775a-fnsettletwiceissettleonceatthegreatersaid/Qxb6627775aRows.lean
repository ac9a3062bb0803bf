/-
  No cell of these rows narrows 'for every input' (looked for: loops, veiled, ifaces, maps, wideKeys, modest, calm, conditions, laid).
  DERIVED. THE GIVEN ROWS OF THIS SEAT. 2 by the template 'for every input the law returns true; each argument reads behind the call as it read before'; 0 by the template 'total and deterministic' (their statements: Qxb6627775aTotals.lean).
  GIVEN WITH THE SEED: the statements are not yours to turn. If you find one false, say at which input.
  Laid BY PROGRAM, IN A SANDBOX (cutbox-rows.mjs): the forced cells as the released guide's own fill.sh prints them over the translation a06a7e5c0209b510… (all of the seat's roots in one cut). By AI agents, Wed Nov 11 2026. No macro, syntax, notation, axiom, sorry.
-/
import Derived.Test.Qxb6627775aChecked
import GoSem.Claim
import GoSem.ClaimJoined
import GoSem.ClaimMapViews
import Derived.JoinedTies
import Derived.KernelRfl
namespace Go.Proofs.Qxb6627775a
/- THE CELL 'sum', in the pinned program and in every row, IS THE sha256 OF THE DUMP (.gsa) THAT Qxb6627775aProg.lean LOADS. Nothing in Lean hashes anything: it is a label: what it is worth is what the hold of that sum in a sandbox is worth. -/
noncomputable def Try.pinned : Pinned := { name := "qxb6627775a", sum := "a06a7e5c0209b510c8022bf41515d554e5678aa9eb03fa2979f3ce0039176f9d", checked := Try.checked }
namespace Rows
def none {H : Type} : Left H := { results := [], args := [] }

/-- 'zzlaws_internal_fabric_b1.FnSettleKeepsExactlyWhatLiesAtOrAboveSeq': WHATEVER THE INPUT: true; the input reads as it did. -/
def fnSettleKeepsExactlyWhatLiesAtOrAboveSeqSpec : ChangeSpec := { name := "fnSettleKeepsExactlyWhatLiesAtOrAboveSeq", fn := fun _ => fun
  | [d1, d2, d3, d4, d5] => { results := [.lit (.bool true)], args := [d1, d2, d3, d4, d5] }
  | _ => none }
def fnSettleKeepsExactlyWhatLiesAtOrAboveSeqRow : OpenClaim := { program := "qxb6627775a", sum := "a06a7e5c0209b510c8022bf41515d554e5678aa9eb03fa2979f3ce0039176f9d", func := "example.com/tidemark/tidemark/zzlaws_internal_fabric_b1.FnSettleKeepsExactlyWhatLiesAtOrAboveSeq", spec := "fnSettleKeepsExactlyWhatLiesAtOrAboveSeq", apart := false }
def FnSettleKeepsExactlyWhatLiesAtOrAboveSeqSaid : Prop := fnSettleKeepsExactlyWhatLiesAtOrAboveSeqRow.holds Try.pinned (OpenSpec.ofChange fnSettleKeepsExactlyWhatLiesAtOrAboveSeqSpec)

/-- ITS FALSE NEIGHBOUR: 'it returns false'. Refute it at one input. -/
def fnSettleKeepsExactlyWhatLiesAtOrAboveSeqWrong : ChangeSpec := { name := "fnSettleKeepsExactlyWhatLiesAtOrAboveSeq", fn := fun _ => fun
  | [d1, d2, d3, d4, d5] => { results := [.lit (.bool false)], args := [d1, d2, d3, d4, d5] }
  | _ => none }
def FnSettleKeepsExactlyWhatLiesAtOrAboveSeqWrongFalsely : Prop := fnSettleKeepsExactlyWhatLiesAtOrAboveSeqRow.holds Try.pinned (OpenSpec.ofChange fnSettleKeepsExactlyWhatLiesAtOrAboveSeqWrong)

/-- 'zzlaws_internal_fabric_b1.FnSettleTwiceIsSettleOnceAtTheGreater': WHATEVER THE INPUT: true; the input reads as it did. -/
def fnSettleTwiceIsSettleOnceAtTheGreaterSpec : ChangeSpec := { name := "fnSettleTwiceIsSettleOnceAtTheGreater", fn := fun _ => fun
  | [d1, d2, d3, d4, d5, d6] => { results := [.lit (.bool true)], args := [d1, d2, d3, d4, d5, d6] }
  | _ => none }
def fnSettleTwiceIsSettleOnceAtTheGreaterRow : OpenClaim := { program := "qxb6627775a", sum := "a06a7e5c0209b510c8022bf41515d554e5678aa9eb03fa2979f3ce0039176f9d", func := "example.com/tidemark/tidemark/zzlaws_internal_fabric_b1.FnSettleTwiceIsSettleOnceAtTheGreater", spec := "fnSettleTwiceIsSettleOnceAtTheGreater", apart := false }
def FnSettleTwiceIsSettleOnceAtTheGreaterSaid : Prop := fnSettleTwiceIsSettleOnceAtTheGreaterRow.holds Try.pinned (OpenSpec.ofChange fnSettleTwiceIsSettleOnceAtTheGreaterSpec)

/-- ITS FALSE NEIGHBOUR: 'it returns false'. Refute it at one input. -/
def fnSettleTwiceIsSettleOnceAtTheGreaterWrong : ChangeSpec := { name := "fnSettleTwiceIsSettleOnceAtTheGreater", fn := fun _ => fun
  | [d1, d2, d3, d4, d5, d6] => { results := [.lit (.bool false)], args := [d1, d2, d3, d4, d5, d6] }
  | _ => none }
def FnSettleTwiceIsSettleOnceAtTheGreaterWrongFalsely : Prop := fnSettleTwiceIsSettleOnceAtTheGreaterRow.holds Try.pinned (OpenSpec.ofChange fnSettleTwiceIsSettleOnceAtTheGreaterWrong)

end Rows
end Go.Proofs.Qxb6627775a
