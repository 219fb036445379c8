/-
  No cell of these rows narrows 'for every input' (looked for: loops, veiled, ifaces, maps, wideKeys, modest, calm, conditions, laid).
  DERIVED. THE GIVEN ROWS OF THIS SEAT. 2 by the template 'for every input the law returns true; each argument reads behind the call as it read before'; 0 by the template 'total and deterministic' (their statements: Qxb6630697aTotals.lean).
  GIVEN WITH THE SEED: the statements are not yours to turn. If you find one false, say at which input.
  Laid BY PROGRAM, IN A SANDBOX (cutbox-rows.mjs): the forced cells as the released guide's own fill.sh prints them over the translation 607ec9dd07df33d8… (all of the seat's roots in one cut). By AI agents, Wed Nov 11 2026. No macro, syntax, notation, axiom, sorry.
-/
import Derived.Test.Qxb6630697aChecked
import GoSem.Claim
import GoSem.ClaimJoined
import GoSem.ClaimMapViews
import Derived.JoinedTies
import Derived.KernelRfl
namespace Go.Proofs.Qxb6630697a
/- THE CELL 'sum', in the pinned program and in every row, IS THE sha256 OF THE DUMP (.gsa) THAT Qxb6630697aProg.lean LOADS. Nothing in Lean hashes anything: it is a label: what it is worth is what the hold of that sum in a sandbox is worth. -/
noncomputable def Try.pinned : Pinned := { name := "qxb6630697a", sum := "607ec9dd07df33d8ca0257294f165b7cf55b09be0c5a20052b92f598af263b15", checked := Try.checked }
namespace Rows
def none {H : Type} : Left H := { results := [], args := [] }

/-- 'zzlaws_textin_b1.FnPositionMatchesLineModel': WHATEVER THE INPUT: true; the input reads as it did. -/
def fnPositionMatchesLineModelSpec : ChangeSpec := { name := "fnPositionMatchesLineModel", fn := fun _ => fun
  | [d1, d2] => { results := [.lit (.bool true)], args := [d1, d2] }
  | _ => none }
def fnPositionMatchesLineModelRow : OpenClaim := { program := "qxb6630697a", sum := "607ec9dd07df33d8ca0257294f165b7cf55b09be0c5a20052b92f598af263b15", func := "example.com/exact-cells/exact-cells/zzlaws_textin_b1.FnPositionMatchesLineModel", spec := "fnPositionMatchesLineModel", apart := false }
def FnPositionMatchesLineModelSaid : Prop := fnPositionMatchesLineModelRow.holds Try.pinned (OpenSpec.ofChange fnPositionMatchesLineModelSpec)

/-- ITS FALSE NEIGHBOUR: 'it returns false'. Refute it at one input. -/
def fnPositionMatchesLineModelWrong : ChangeSpec := { name := "fnPositionMatchesLineModel", fn := fun _ => fun
  | [d1, d2] => { results := [.lit (.bool false)], args := [d1, d2] }
  | _ => none }
def FnPositionMatchesLineModelWrongFalsely : Prop := fnPositionMatchesLineModelRow.holds Try.pinned (OpenSpec.ofChange fnPositionMatchesLineModelWrong)

/-- 'zzlaws_textin_b1.FnPositionJoinAtLineEnd': WHATEVER THE INPUT: true; the input reads as it did. -/
def fnPositionJoinAtLineEndSpec : ChangeSpec := { name := "fnPositionJoinAtLineEnd", fn := fun _ => fun
  | [d1, d2, d3] => { results := [.lit (.bool true)], args := [d1, d2, d3] }
  | _ => none }
def fnPositionJoinAtLineEndRow : OpenClaim := { program := "qxb6630697a", sum := "607ec9dd07df33d8ca0257294f165b7cf55b09be0c5a20052b92f598af263b15", func := "example.com/exact-cells/exact-cells/zzlaws_textin_b1.FnPositionJoinAtLineEnd", spec := "fnPositionJoinAtLineEnd", apart := false }
def FnPositionJoinAtLineEndSaid : Prop := fnPositionJoinAtLineEndRow.holds Try.pinned (OpenSpec.ofChange fnPositionJoinAtLineEndSpec)

/-- ITS FALSE NEIGHBOUR: 'it returns false'. Refute it at one input. -/
def fnPositionJoinAtLineEndWrong : ChangeSpec := { name := "fnPositionJoinAtLineEnd", fn := fun _ => fun
  | [d1, d2, d3] => { results := [.lit (.bool false)], args := [d1, d2, d3] }
  | _ => none }
def FnPositionJoinAtLineEndWrongFalsely : Prop := fnPositionJoinAtLineEndRow.holds Try.pinned (OpenSpec.ofChange fnPositionJoinAtLineEndWrong)

end Rows
end Go.Proofs.Qxb6630697a
