import Derived.Test.Qxb6630623aSteps
/- THE INDEX IN MEMORY; THE WALKS of ZZNewIndex (12) and ZZPut (14). -/
namespace Go.Proofs.Qxb6630623a
set_option linter.unusedVariables false
set_option linter.unusedSimpArgs false
open Go.RowKit

/-- What an Index holds of one Patient id q. -/
def NM (w : World) (B2 : Nat) (rs : List RD) (n : Nat) (q : ByteArray) (nb : Nat) : Prop :=
  B2 ≤ nb ∧ ∃ ve br lr, w.heap[nb]? = some (.cells #[ve, .map (some br)] 61 (0, 0)) ∧ IL w B2 ve (mdl rs q E0 n) ∧ B2 ≤ br ∧ MapIs w br lr ∧ ∀ u, IL w B2 ((look lr u).getD nilS) (rmdl rs q u n)
def IX (w : World) (bp B2 : Nat) (rs : List RD) (n : Nat) (done : ByteArray → Bool) : Prop :=
  ∃ lp, MapIs w bp lp ∧ (∀ q, done q = true → ∃ nb, look lp q = some (.pointer (some ⟨nb, 0, none⟩)) ∧ NM w B2 rs n q nb) ∧ (∀ q, done q = false → look lp q = none)

theorem IL.same {w w' : World} {B : Nat} {v : Value} {zs : List Int} (h : IL w B v zs) (hs : ∀ b, B ≤ b → b < w.heap.size → w'.heap[b]? = w.heap[b]?) : IL w' B v zs :=
  ownsRow_same h (fun c hc => hs c (World.ownsRow.lt h c hc).1 (World.ownsRow.lt h c hc).2)
theorem IL.mono {w : World} {B B' : Nat} {v : Value} {zs : List Int} (h : IL w B v zs) (hB : B' ≤ B) : IL w B' v zs := by
  obtain ⟨h1, h2⟩ := h
  refine ⟨h1, ?_⟩
  rcases h2 with h2 | ⟨g, cap, cur, h3, h4, h5⟩
  · exact .inl h2
  · exact .inr ⟨g, cap, cur, h3, by omega, h5⟩
theorem IL.below {w w' : World} {B : Nat} {v : Value} {zs : List Int} (h : IL w B v zs) (hb : Below w.heap.size w w') : IL w' B v zs :=
  h.same (fun b _ hlt => hb.block b hlt)
theorem NM.same {w w' : World} {B2 : Nat} {rs : List RD} {n : Nat} {q : ByteArray} {nb : Nat} (h : NM w B2 rs n q nb) (hs : ∀ b, B2 ≤ b → b < w.heap.size → w'.heap[b]? = w.heap[b]?) : NM w' B2 rs n q nb := by
  obtain ⟨h1, ve, br, lr, h2, h3, h4, h5, h6⟩ := h
  have hlt : nb < w.heap.size := (Array.getElem?_eq_some_iff.1 h2).1
  exact ⟨h1, ve, br, lr, (hs nb h1 hlt).trans h2, h3.same hs, h4, h5.of_block (hs br h4 h5.lt), fun u => (h6 u).same hs⟩
theorem IX.same {w w' : World} {bp B2 : Nat} {rs : List RD} {n : Nat} {done : ByteArray → Bool} (h : IX w bp B2 rs n done) (hs : ∀ b, B2 ≤ b → b < w.heap.size → w'.heap[b]? = w.heap[b]?) (hp : w'.heap[bp]? = w.heap[bp]?) : IX w' bp B2 rs n done := by
  obtain ⟨lp, h1, h2, h3⟩ := h
  refine ⟨lp, h1.of_block hp, fun q hq => ?_, h3⟩
  obtain ⟨nb, e, g⟩ := h2 q hq
  exact ⟨nb, e, g.same hs⟩

/-- x.patients[q] = &named{..}. -/
theorem IX.put {w : World} {bp B2 br : Nat} {rs : List RD} {n : Nat} {done : ByteArray → Bool} {q : ByteArray} {ve : Value} {lr : KV} (h : IX w bp B2 rs n done) (hp : bp < B2) (hB : B2 ≤ w.heap.size)
    (h3 : IL w B2 ve (mdl rs q E0 n)) (h4 : B2 ≤ br) (h5 : MapIs w br lr) (h6 : ∀ u, IL w B2 ((look lr u).getD nilS) (rmdl rs q u n)) :
    IX (putMap (w.alloc (.cells #[ve, .map (some br)] 61)) bp q (.pointer (some ⟨w.heap.size, 0, none⟩))) bp B2 rs n (fun q' => if sEq q' q then true else done q') := by
  have hs : ∀ b, B2 ≤ b → b < w.heap.size → (putMap (w.alloc (.cells #[ve, .map (some br)] 61)) bp q (.pointer (some ⟨w.heap.size, 0, none⟩))).heap[b]? = w.heap[b]? := by
    intro b hb hlt
    rw [heap_putMap_other _ _ _ _ _ (by omega)]
    exact Below.heap_alloc _ _ _ hlt
  obtain ⟨lp, h1, h2, h0⟩ := h
  refine ⟨putKV lp q (.pointer (some ⟨w.heap.size, 0, none⟩)), mapIs_put _ _ (h1.alloc _), fun q' hq => ?_, fun q' hq => ?_⟩
  · rw [look_put]
    by_cases e : sEq q' q = true
    · have e' := (sEq_iff _ _).1 e
      subst e'
      rw [if_pos e]
      refine ⟨w.heap.size, rfl, hB, ve, br, lr, ?_, h3.same hs, h4, h5.of_block (hs br h4 h5.lt), fun u => (h6 u).same hs⟩
      rw [heap_putMap_other _ _ _ _ _ (by omega)]
      exact heap_alloc_new w _
    · rw [if_neg e]
      simp only [e, Bool.false_eq_true, if_false] at hq
      obtain ⟨nb, e2, g⟩ := h2 q' hq
      exact ⟨nb, e2, g.same hs⟩
  · rw [look_put]
    by_cases e : sEq q' q = true
    · simp [e] at hq
    · simp only [e, Bool.false_eq_true, if_false] at hq ⊢
      exact h0 q' hq

def xCells (bp : Nat) : Array Value := #[.int .i32 0, .int .u32 0, .int .u32 0, .int .u32 0, .int .i32 0, .int .i32 0, .map (some bp)]
theorem newIndex_any (w : World) : Calls Try.prog 12 #[] w fun e w' => e = .returned (.pointer (some ⟨w.heap.size + 1, 0, none⟩)) ∧ w' = (w.alloc (.map #[] 0)).alloc (.cells (xCells w.heap.size) 58) := by
  have hmm := @run_makeMap Try.prog
  go_enter Try.func12, Try.ntmps12
  go_wp2
  go_ret
  exact ⟨rfl, rfl⟩

theorem put_any (xb bp br : Nat) (q : ByteArray) (ea : Option Addr) (en ec : Nat) (lp : KV) (w : World) (hx : w.cell? ⟨xb, 6, none⟩ = some (.map (some bp))) (hm : MapIs w bp lp) :
    Calls Try.prog 14 #[.pointer (some ⟨xb, 0, none⟩), .string q, .slice ea en ec, .map (some br)] w fun e w' => e = .returned (.tuple #[]) ∧
      w' = putMap (w.alloc (.cells #[.slice ea en ec, .map (some br)] 61)) bp q (.pointer (some ⟨w.heap.size, 0, none⟩)) := by
  have hput := (run_putMap (P := Try.prog) Try.underlying56 Try.underlying9 q (.pointer (some ⟨w.heap.size, 0, none⟩)) (hm.alloc (.cells #[.slice ea en ec, .map (some br)] 61))).1
  go_enter Try.func14, Try.ntmps14
  go_wp2
  go_end0
  exact ⟨rfl, rfl⟩
end Go.Proofs.Qxb6630623a
