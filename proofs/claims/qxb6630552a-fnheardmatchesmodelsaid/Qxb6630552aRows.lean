/-
  No cell of these rows narrows 'for every input' (looked for: loops, veiled, ifaces, maps, wideKeys, modest, calm, conditions, laid).
  DERIVED. THE GIVEN ROWS OF THIS SEAT. 1 by the template 'for every input the law returns true; each argument reads behind the call as it read before'; 0 by the template 'total and deterministic' (their statements: Qxb6630552aTotals.lean).
  GIVEN WITH THE SEED: the statements are not yours to turn. If you find one false, say at which input.
  Laid BY PROGRAM, IN A SANDBOX (cutbox-rows.mjs): the forced cells as the released guide's own fill.sh prints them over the translation 3dd84233a2a68ac1… (all of the seat's roots in one cut). By AI agents, Wed Nov 11 2026. No macro, syntax, notation, axiom, sorry.
-/
import Derived.Test.Qxb6630552aChecked
import GoSem.Claim
import GoSem.ClaimJoined
import GoSem.ClaimMapViews
import Derived.JoinedTies
import Derived.KernelRfl
namespace Go.Proofs.Qxb6630552a
/- THE CELL 'sum', in the pinned program and in every row, IS THE sha256 OF THE DUMP (.gsa) THAT Qxb6630552aProg.lean LOADS. Nothing in Lean hashes anything: it is a label: what it is worth is what the hold of that sum in a sandbox is worth. -/
noncomputable def Try.pinned : Pinned := { name := "qxb6630552a", sum := "3dd84233a2a68ac1d9e91aeab88ea23ebc4bce26299fde1001a5c45141e5a5bd", checked := Try.checked }
namespace Rows
def none {H : Type} : Left H := { results := [], args := [] }

/-- 'zzlaws_internal_master_b1.FnHeardMatchesModel': WHATEVER THE INPUT: true; the input reads as it did. -/
def fnHeardMatchesModelSpec : ChangeSpec := { name := "fnHeardMatchesModel", fn := fun _ => fun
  | [d1, d2, d3, d4, d5, d6] => { results := [.lit (.bool true)], args := [d1, d2, d3, d4, d5, d6] }
  | _ => none }
def fnHeardMatchesModelRow : OpenClaim := { program := "qxb6630552a", sum := "3dd84233a2a68ac1d9e91aeab88ea23ebc4bce26299fde1001a5c45141e5a5bd", func := "example.com/strand/strand/zzlaws_internal_master_b1.FnHeardMatchesModel", spec := "fnHeardMatchesModel", apart := false }
def FnHeardMatchesModelSaid : Prop := fnHeardMatchesModelRow.holds Try.pinned (OpenSpec.ofChange fnHeardMatchesModelSpec)

/-- ITS FALSE NEIGHBOUR: 'it returns false'. Refute it at one input. -/
def fnHeardMatchesModelWrong : ChangeSpec := { name := "fnHeardMatchesModel", fn := fun _ => fun
  | [d1, d2, d3, d4, d5, d6] => { results := [.lit (.bool false)], args := [d1, d2, d3, d4, d5, d6] }
  | _ => none }
def FnHeardMatchesModelWrongFalsely : Prop := fnHeardMatchesModelRow.holds Try.pinned (OpenSpec.ofChange fnHeardMatchesModelWrong)

end Rows
end Go.Proofs.Qxb6630552a
