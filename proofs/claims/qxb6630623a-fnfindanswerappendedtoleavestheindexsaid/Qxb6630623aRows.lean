/-
  No cell of these rows narrows 'for every input' (looked for: loops, veiled, ifaces, maps, wideKeys, modest, calm, conditions, laid).
  DERIVED. THE GIVEN ROWS OF THIS SEAT. 1 by the template 'for every input the law returns true; each argument reads behind the call as it read before'; 0 by the template 'total and deterministic' (their statements: Qxb6630623aTotals.lean).
  GIVEN WITH THE SEED: the statements are not yours to turn. If you find one false, say at which input.
  Laid BY PROGRAM, IN A SANDBOX (cutbox-rows.mjs): the forced cells as the released guide's own fill.sh prints them over the translation 3b57dad82f881ef4… (all of the seat's roots in one cut). By AI agents, Wed Nov 11 2026. No macro, syntax, notation, axiom, sorry.
-/
import Derived.Test.Qxb6630623aChecked
import GoSem.Claim
import GoSem.ClaimJoined
import GoSem.ClaimMapViews
import Derived.JoinedTies
import Derived.KernelRfl
namespace Go.Proofs.Qxb6630623a
/- THE CELL 'sum', in the pinned program and in every row, IS THE sha256 OF THE DUMP (.gsa) THAT Qxb6630623aProg.lean LOADS. Nothing in Lean hashes anything: it is a label: what it is worth is what the hold of that sum in a sandbox is worth. -/
noncomputable def Try.pinned : Pinned := { name := "qxb6630623a", sum := "3b57dad82f881ef45993a1a4726211b84b0dcb4fbd200fcbbbb7344f6ec7eac5", checked := Try.checked }
namespace Rows
def none {H : Type} : Left H := { results := [], args := [] }

/-- 'zzlaws_search_b1.FnFindAnswerAppendedToLeavesTheIndex': WHATEVER THE INPUT: true; the input reads as it did. -/
def fnFindAnswerAppendedToLeavesTheIndexSpec : ChangeSpec := { name := "fnFindAnswerAppendedToLeavesTheIndex", fn := fun _ => fun
  | [d1, d2, d3] => { results := [.lit (.bool true)], args := [d1, d2, d3] }
  | _ => none }
def fnFindAnswerAppendedToLeavesTheIndexRow : OpenClaim := { program := "qxb6630623a", sum := "3b57dad82f881ef45993a1a4726211b84b0dcb4fbd200fcbbbb7344f6ec7eac5", func := "example.com/witnessbook/witnessbook/zzlaws_search_b1.FnFindAnswerAppendedToLeavesTheIndex", spec := "fnFindAnswerAppendedToLeavesTheIndex", inPlace := ["(*sync.RWMutex).RLock", "internal/race.Read", "internal/race.Disable", "sync/atomic.AddInt32", "sync.runtime_SemacquireRWMutexR", "internal/race.Enable", "internal/race.Acquire", "(*sync.RWMutex).RUnlock", "internal/race.ReleaseMerge", "(*sync.RWMutex).rUnlockSlow", "sync.fatal", "sync.runtime_Semrelease"], apart := false }
def FnFindAnswerAppendedToLeavesTheIndexSaid : Prop := fnFindAnswerAppendedToLeavesTheIndexRow.holds Try.pinned (OpenSpec.ofChange fnFindAnswerAppendedToLeavesTheIndexSpec)

/-- ITS FALSE NEIGHBOUR: 'it returns false'. Refute it at one input. -/
def fnFindAnswerAppendedToLeavesTheIndexWrong : ChangeSpec := { name := "fnFindAnswerAppendedToLeavesTheIndex", fn := fun _ => fun
  | [d1, d2, d3] => { results := [.lit (.bool false)], args := [d1, d2, d3] }
  | _ => none }
def FnFindAnswerAppendedToLeavesTheIndexWrongFalsely : Prop := fnFindAnswerAppendedToLeavesTheIndexRow.holds Try.pinned (OpenSpec.ofChange fnFindAnswerAppendedToLeavesTheIndexWrong)

end Rows
end Go.Proofs.Qxb6630623a
