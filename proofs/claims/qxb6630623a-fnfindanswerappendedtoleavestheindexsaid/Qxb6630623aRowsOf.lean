import Derived.Test.Qxb6630623aChecked
import Derived.Test.Qxb6630623aPlain
import Derived.WalkKit
import Derived.OwnWalk
import Derived.Maps.AppendAt
import Derived.Maps.OwnRows
/- Slices in memory: of records, of integers and of strings that the call owns. -/
namespace Go.Proofs.Qxb6630623a
set_option linter.unusedVariables false
set_option linter.unusedSimpArgs false
open Go.RowKit

/-- A slice of Rec, in memory. -/
def RR (w : World) (a : Option Addr) (rs : List RD) : Prop :=
  rs.length ≤ 9223372036854775807 ∧ ∃ b off, (rs ≠ [] → a = some ⟨b, off, none⟩ ∧ b < w.heap.size) ∧ ∀ k, k < rs.length →
    w.cell? ⟨b, off + k * 3, none⟩ = some (.int .i64 (rdAt rs k).ev) ∧ w.cell? ⟨b, off + k * 3 + 1, none⟩ = some (.string (rdAt rs k).pat) ∧
    w.cell? ⟨b, off + k * 3 + 2, none⟩ = some (.string (rdAt rs k).ref)

theorem ix22 (a : Option Addr) (n cap b off : Nat) (h : n ≠ 0 → a = some ⟨b, off, none⟩) :
    ∀ (k : Nat), k < n → ∀ W, (Instr.indexAt 22 (.slice a n cap) (.int .i64 k)).run Try.prog W = .ok (.pointer (some ⟨b, off + k * 3, none⟩)) W := by
  intro k hk W
  have ha := h (by omega)
  subst ha
  have h2 : (0 : Int) ≤ k := by omega
  have h3 : (k : Int) < n := by omega
  go_simp
theorem ix30 (a : Option Addr) (n cap g : Nat) (h : n ≠ 0 → a = some ⟨g, 0, none⟩) :
    ∀ (k : Nat), k < n → ∀ W, (Instr.indexAt 30 (.slice a n cap) (.int .i64 k)).run Try.prog W = .ok (.pointer (some ⟨g, k, none⟩)) W := by
  intro k hk W
  have ha := h (by omega)
  subst ha
  have h2 : (0 : Int) ≤ k := by omega
  have h3 : (k : Int) < n := by omega
  go_simp
theorem ix39 (a : Option Addr) (n cap g : Nat) (h : n ≠ 0 → a = some ⟨g, 0, none⟩) :
    ∀ (k : Nat), k < n → ∀ W, (Instr.indexAt 39 (.slice a n cap) (.int .i64 k)).run Try.prog W = .ok (.pointer (some ⟨g, k, none⟩)) W := by
  intro k hk W
  have ha := h (by omega)
  subst ha
  have h2 : (0 : Int) ≤ k := by omega
  have h3 : (k : Int) < n := by omega
  go_simp

/-- Integers, strings that lie in a row of the call's own (from block B on). -/
def IL (w : World) (B : Nat) (v : Value) (zs : List Int) : Prop := w.ownsRow B 2 1 v zs.length (zs.map (Value.int .i64))
def SL (w : World) (B : Nat) (v : Value) (ss : List ByteArray) : Prop := w.ownsRow B 9 1 v ss.length (ss.map Value.string)

theorem IL.look {w : World} {B : Nat} {v : Value} {zs : List Int} (h : IL w B v zs) :
    ∃ a cap g, v = .slice a zs.length cap ∧ (zs.length ≠ 0 → a = some ⟨g, 0, none⟩) ∧ (∀ j, j < zs.length → w.cell? ⟨g, j, none⟩ = some (.int .i64 (intAt zs j))) ∧ (zs.length ≠ 0 → B ≤ g ∧ g < w.heap.size) ∧ zs.length ≤ cap ∧ cap ≤ 9223372036854775807 := by
  have hc := fun g hg => World.ownsRow.cells (g := g) h hg
  have hl := World.ownsRow.lt h
  obtain ⟨h1, h2⟩ := h
  rcases h2 with ⟨rfl, h3⟩ | ⟨g, cap, cur, rfl, h3, h4, h5, h6, h7, h8⟩
  · have : zs = [] := List.eq_nil_of_length_eq_zero h3
    subst this
    exact ⟨none, 0, 0, rfl, fun h => (h rfl).elim, fun j hj => by simp at hj, fun h => (h rfl).elim, Nat.le_refl _, by omega⟩
  · refine ⟨_, cap, g, rfl, fun _ => rfl, fun j hj => ?_, fun _ => hl g rfl, h5, by simpa [maxLen] using h6⟩
    have := hc g rfl j (.int .i64 (intAt zs j)) (by simp [intAt, hj])
    have hadd : (⟨g, 0, none⟩ : Addr).add j = ⟨g, j, none⟩ := by unfold Addr.add; split <;> simp_all
    rwa [hadd] at this
theorem SL.look {w : World} {B : Nat} {v : Value} {ss : List ByteArray} (h : SL w B v ss) :
    ∃ a cap g, v = .slice a ss.length cap ∧ (ss.length ≠ 0 → a = some ⟨g, 0, none⟩) ∧ (∀ j, j < ss.length → w.cell? ⟨g, j, none⟩ = some (.string (strAt ss j))) ∧ (ss.length ≠ 0 → B ≤ g ∧ g < w.heap.size) := by
  have hc := fun g hg => World.ownsRow.cells (g := g) h hg
  have hl := World.ownsRow.lt h
  obtain ⟨h1, h2⟩ := h
  rcases h2 with ⟨rfl, h3⟩ | ⟨g, cap, cur, rfl, h3, h4, h5, h6, h7, h8⟩
  · have : ss = [] := List.eq_nil_of_length_eq_zero h3
    subst this
    exact ⟨none, 0, 0, rfl, fun h => (h rfl).elim, fun j hj => by simp at hj, fun h => (h rfl).elim⟩
  · refine ⟨_, cap, g, rfl, fun _ => rfl, fun j hj => ?_, fun _ => hl g rfl⟩
    have := hc g rfl j (.string (strAt ss j)) (by simp [strAt, hj])
    have hadd : (⟨g, 0, none⟩ : Addr).add j = ⟨g, j, none⟩ := by unfold Addr.add; split <;> simp_all
    rwa [hadd] at this

theorem IL_nil (w : World) (B : Nat) : IL w B (.slice none 0 0) [] := World.ownsRow_nil w B 2 1
theorem SL_nil (w : World) (B : Nat) : SL w B (.slice none 0 0) [] := World.ownsRow_nil w B 9 1
theorem IL.snoc {w : World} {B : Nat} {v : Value} {zs : List Int} {x : Int} (h : w.ownsRow B 2 1 v (zs.length + 1) (zs.map (Value.int .i64) ++ [.int .i64 x])) : IL w B v (zs ++ [x]) := by
  unfold IL; simpa using h
theorem SL.snoc {w : World} {B : Nat} {v : Value} {ss : List ByteArray} {x : ByteArray} (h : w.ownsRow B 9 1 v (ss.length + 1) (ss.map Value.string ++ [.string x])) : SL w B v (ss ++ [x]) := by
  unfold SL; simpa using h

theorem Try.info2 : (Try.prog.info? 2).map (fun i => (i.zero, i.size, i.bytes)) = some (some (.int .i64 0), 1, 8) := by kernel_rfl
theorem Try.info9 : (Try.prog.info? 9).map (fun i => (i.zero, i.size, i.bytes)) = some (some (.string ByteArray.empty), 1, 16) := by kernel_rfl

theorem RR.below {w w' : World} {a : Option Addr} {rs : List RD} (h : RR w a rs) (hb : Below w.heap.size w w') : RR w' a rs := by
  obtain ⟨h0, b, off, h1, h2⟩ := h
  refine ⟨h0, b, off, fun hn => ⟨(h1 hn).1, Nat.lt_of_lt_of_le (h1 hn).2 hb.size⟩, fun k hk => ?_⟩
  have hlt : b < w.heap.size := (h1 (by intro e; simp [e] at hk)).2
  obtain ⟨c0, c1, c2⟩ := h2 k hk
  exact ⟨(hb.cell (by exact hlt)).trans c0, (hb.cell (by exact hlt)).trans c1, (hb.cell (by exact hlt)).trans c2⟩
theorem below_then {w W w1 : World} (h : Below w.heap.size w W) (k : Below W.heap.size W w1) : Below w.heap.size w w1 := h.trans (k.mono h.size)
theorem ret_bool {a b : Bool} (h : a = b) : Ending.returned (.bool a) = .returned (.bool b) := by rw [h]
end Go.Proofs.Qxb6630623a
