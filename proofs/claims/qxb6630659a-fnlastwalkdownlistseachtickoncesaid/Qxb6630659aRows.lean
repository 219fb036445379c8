/-
  No cell of these rows narrows 'for every input' (looked for: loops, veiled, ifaces, maps, wideKeys, modest, calm, conditions, laid).
  DERIVED. THE GIVEN ROWS OF THIS SEAT. 2 by the template 'for every input the law returns true; each argument reads behind the call as it read before'; 0 by the template 'total and deterministic' (their statements: Qxb6630659aTotals.lean).
  GIVEN WITH THE SEED: the statements are not yours to turn. If you find one false, say at which input.
  Laid BY PROGRAM, IN A SANDBOX (cutbox-rows.mjs): the forced cells as the released guide's own fill.sh prints them over the translation fe9f00a13c305af9… (all of the seat's roots in one cut). By AI agents, Wed Nov 11 2026. No macro, syntax, notation, axiom, sorry.
-/
import Derived.Test.Qxb6630659aChecked
import GoSem.Claim
import GoSem.ClaimJoined
import GoSem.ClaimMapViews
import Derived.JoinedTies
import Derived.KernelRfl
namespace Go.Proofs.Qxb6630659a
/- THE CELL 'sum', in the pinned program and in every row, IS THE sha256 OF THE DUMP (.gsa) THAT Qxb6630659aProg.lean LOADS. Nothing in Lean hashes anything: it is a label: what it is worth is what the hold of that sum in a sandbox is worth. -/
noncomputable def Try.pinned : Pinned := { name := "qxb6630659a", sum := "fe9f00a13c305af9b39b52f34f1604cc0985266df01bbaf592610c720b7221ba", checked := Try.checked }
namespace Rows
def none {H : Type} : Left H := { results := [], args := [] }

/-- 'zzlaws_internal_ranges_b1.FnLastIsGreatestTickInSpan': WHATEVER THE INPUT: true; the input reads as it did. -/
def fnLastIsGreatestTickInSpanSpec : ChangeSpec := { name := "fnLastIsGreatestTickInSpan", fn := fun _ => fun
  | [d1, d2, d3] => { results := [.lit (.bool true)], args := [d1, d2, d3] }
  | _ => none }
def fnLastIsGreatestTickInSpanRow : OpenClaim := { program := "qxb6630659a", sum := "fe9f00a13c305af9b39b52f34f1604cc0985266df01bbaf592610c720b7221ba", func := "example.com/tickyield/tickyield/zzlaws_internal_ranges_b1.FnLastIsGreatestTickInSpan", spec := "fnLastIsGreatestTickInSpan", apart := false }
def FnLastIsGreatestTickInSpanSaid : Prop := fnLastIsGreatestTickInSpanRow.holds Try.pinned (OpenSpec.ofChange fnLastIsGreatestTickInSpanSpec)

/-- ITS FALSE NEIGHBOUR: 'it returns false'. Refute it at one input. -/
def fnLastIsGreatestTickInSpanWrong : ChangeSpec := { name := "fnLastIsGreatestTickInSpan", fn := fun _ => fun
  | [d1, d2, d3] => { results := [.lit (.bool false)], args := [d1, d2, d3] }
  | _ => none }
def FnLastIsGreatestTickInSpanWrongFalsely : Prop := fnLastIsGreatestTickInSpanRow.holds Try.pinned (OpenSpec.ofChange fnLastIsGreatestTickInSpanWrong)

/-- 'zzlaws_internal_ranges_b1.FnLastWalkDownListsEachTickOnce': WHATEVER THE INPUT: true; the input reads as it did. -/
def fnLastWalkDownListsEachTickOnceSpec : ChangeSpec := { name := "fnLastWalkDownListsEachTickOnce", fn := fun _ => fun
  | [d1, d2, d3] => { results := [.lit (.bool true)], args := [d1, d2, d3] }
  | _ => none }
def fnLastWalkDownListsEachTickOnceRow : OpenClaim := { program := "qxb6630659a", sum := "fe9f00a13c305af9b39b52f34f1604cc0985266df01bbaf592610c720b7221ba", func := "example.com/tickyield/tickyield/zzlaws_internal_ranges_b1.FnLastWalkDownListsEachTickOnce", spec := "fnLastWalkDownListsEachTickOnce", apart := false }
def FnLastWalkDownListsEachTickOnceSaid : Prop := fnLastWalkDownListsEachTickOnceRow.holds Try.pinned (OpenSpec.ofChange fnLastWalkDownListsEachTickOnceSpec)

/-- ITS FALSE NEIGHBOUR: 'it returns false'. Refute it at one input. -/
def fnLastWalkDownListsEachTickOnceWrong : ChangeSpec := { name := "fnLastWalkDownListsEachTickOnce", fn := fun _ => fun
  | [d1, d2, d3] => { results := [.lit (.bool false)], args := [d1, d2, d3] }
  | _ => none }
def FnLastWalkDownListsEachTickOnceWrongFalsely : Prop := fnLastWalkDownListsEachTickOnceRow.holds Try.pinned (OpenSpec.ofChange fnLastWalkDownListsEachTickOnceWrong)

end Rows
end Go.Proofs.Qxb6630659a
