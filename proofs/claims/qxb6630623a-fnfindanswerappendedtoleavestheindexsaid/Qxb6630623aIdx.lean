import Derived.Test.Qxb6630623aFind
/- THE SECOND LOOP's STATE. -/
namespace Go.Proofs.Qxb6630623a
set_option linter.unusedVariables false
set_option linter.unusedSimpArgs false
open Go.RowKit

theorem ST.keep {w0 w w' : World} {own : Nat → Tag} {bE bR bO : Nat} {rs : List RD} {kL kE kO kR : Nat} {ov : Value} {lE lR lO : KV} {hO : ByteArray → Bool} (h : ST w0 w own bE bR bO rs kL kE kO kR ov lE lR lO hO)
    (hc : Chg own own w w' (fun _ => False)) (hb : Below w0.heap.size w0 w') : ST w0 w' own bE bR bO rs kL kE kO kR ov lE lR lO hO :=
  ⟨h.e.chg hc id (fun _ => id), h.r.chg hc id (fun _ => id) (fun _ _ => id), h.o.chg hc id (fun _ => id), h.l.chg hc id, hb⟩

/-- t patients are laid. w1: the world behind the first loop. -/
structure S2 (w0 w1 : World) (own : Nat → Tag) (rs : List RD) (n t : Nat) (w2 : World) : Prop where
  chg : Chg own own w1 w2 (fun _ => False)
  bel : Below w0.heap.size w0 w2
  ix : IX w2 w1.heap.size (w1.heap.size + 2) rs n (fun q => has ((ordOf rs n).take t) q)
  xb : w2.heap[w1.heap.size + 1]? = some (.cells (xCells w1.heap.size) 58 (0, 0))
  size : w1.heap.size + 2 ≤ w2.heap.size

theorem S2_start {w0 w1 : World} {own : Nat → Tag} {rs : List RD} {n : Nat} (hb : Below w0.heap.size w0 w1) : S2 w0 w1 own rs n 0 ((w1.alloc (.map #[] 0)).alloc (.cells (xCells w1.heap.size) 58)) := by
  refine ⟨⟨by simp; omega, fun b _ => rfl, fun b hlt _ => ?_⟩, (hb.alloc hb.size _).alloc (by have := hb.size; simp; omega) _, ⟨[], (MapIs.made w1).alloc _, fun q hq => by simp [has] at hq, fun q hq => rfl⟩, ?_, by simp⟩
  · rw [Below.heap_alloc _ _ _ (by simp; omega)]; exact Below.heap_alloc _ _ _ hlt
  · have := heap_alloc_new (w1.alloc (.map #[] 0)) (.cells (xCells w1.heap.size) 58)
    simpa using this

/-- s of q's references are laid, in the map at br, which was the next block of w2. -/
structure S3 (w2 : World) (rs : List RD) (n : Nat) (q : ByteArray) (s : Nat) (w3 : World) : Prop where
  bel : Below w2.heap.size w2 w3
  size : w2.heap.size + 1 ≤ w3.heap.size
  map : ∃ lr, MapIs w3 w2.heap.size lr ∧ ∀ u, IL w3 (w2.heap.size + 1) ((look lr u).getD nilS) (if has ((roOf rs q n).take s) u then rmdl rs q u n else [])

theorem S3_start (w2 : World) (rs : List RD) (n : Nat) (q : ByteArray) : S3 w2 rs n q 0 (w2.alloc (.map #[] 0)) :=
  ⟨(Below.refl _ _).alloc (Nat.le_refl _) _, by simp, [], MapIs.made w2, fun u => by simpa [has, look, nilS] using IL_nil _ _⟩

theorem S3_step {w2 w3 w4 : World} {rs : List RD} {n : Nat} {q : ByteArray} {s : Nat} {v : Value} (h : S3 w2 rs n q s w3) (hs : s < (roOf rs q n).length) (hb : Below w3.heap.size w3 w4)
    (hv : IL w4 w3.heap.size v (rmdl rs q (strAt (roOf rs q n) s) n)) : S3 w2 rs n q (s + 1) (putMap w4 w2.heap.size (strAt (roOf rs q n) s) v) := by
  obtain ⟨b1, b2, lr, b3, b4⟩ := h
  have hsz := hb.size
  refine ⟨below_putMap (b1.trans (hb.mono (by omega))) _ _ _ (Nat.le_refl _), by rw [size_putMap]; omega, putKV lr (strAt (roOf rs q n) s) v, mapIs_put _ _ (b3.below hb (by omega)), fun u => ?_⟩
  rw [look_put, has_take_succ _ _ hs]
  by_cases e : sEq u (strAt (roOf rs q n) s) = true
  · have e' := (sEq_iff _ _).1 e
    subst e'
    rw [if_pos e, sEq_self]
    simp only [Bool.or_true, if_true, Option.getD_some]
    refine (hv.mono (by omega)).same (fun b hB hlt => heap_putMap_other _ _ _ _ _ (by omega))
  · have e2 : sEq (strAt (roOf rs q n) s) u = false := by rw [sEq_comm]; simpa using e
    rw [if_neg e, e2]
    simp only [Bool.or_false]
    refine (b4 u).same (fun b hB hlt => ?_)
    rw [heap_putMap_other _ _ _ _ _ (by omega)]
    exact hb.block b hlt

theorem S3_end {w2 w3 : World} {rs : List RD} {n : Nat} {q : ByteArray} (h : S3 w2 rs n q (roOf rs q n).length w3) : ∃ lr, MapIs w3 w2.heap.size lr ∧ ∀ u, IL w3 (w2.heap.size + 1) ((look lr u).getD nilS) (rmdl rs q u n) := by
  obtain ⟨_, _, lr, b3, b4⟩ := h
  refine ⟨lr, b3, fun u => ?_⟩
  have := b4 u
  rw [List.take_length] at this
  cases hh : has (roOf rs q n) u
  · rw [rmdl_of_not_ro rs q u n hh]; simpa [hh] using this
  · simpa [hh] using this

theorem S2_step {w0 w1 w2 w3 w4 : World} {own : Nat → Tag} {rs : List RD} {n t : Nat} {ve : Value} (h : S2 w0 w1 own rs n t w2) (ht : t < (ordOf rs n).length) (hw1 : w0.heap.size ≤ w1.heap.size)
    (h3 : S3 w2 rs n (strAt (ordOf rs n) t) (roOf rs (strAt (ordOf rs n) t) n).length w3) (hb : Below w3.heap.size w3 w4) (hv : IL w4 w3.heap.size ve (mdl rs (strAt (ordOf rs n) t) E0 n)) :
    S2 w0 w1 own rs n (t + 1) (putMap (w4.alloc (.cells #[ve, .map (some w2.heap.size)] 61)) w1.heap.size (strAt (ordOf rs n) t) (.pointer (some ⟨w4.heap.size, 0, none⟩))) := by
  have hs := h.size
  have hs3 := h3.size
  have hs4 := hb.size
  have b24 : Below w2.heap.size w2 w4 := h3.bel.trans (hb.mono (by omega))
  obtain ⟨lr, m1, m2⟩ := S3_end h3
  have ix4 : IX w4 w1.heap.size (w1.heap.size + 2) rs n (fun q => has ((ordOf rs n).take t) q) := h.ix.same (fun b _ hlt => b24.block b hlt) (b24.block _ (by omega))
  have hput := ix4.put (q := strAt (ordOf rs n) t) (br := w2.heap.size) (by omega) (by omega) (hv.mono (by omega)) (by omega) (m1.below hb (by omega)) (fun u => ((m2 u).mono (by omega)).below hb)
  refine ⟨⟨?_, fun b _ => rfl, fun b hlt _ => ?_⟩, ?_, ?_, ?_, ?_⟩
  · rw [size_putMap]; simp; omega
  · rw [heap_putMap_other _ _ _ _ _ (by omega), Below.heap_alloc _ _ _ (by omega), b24.block b (by omega)]
    exact h.chg.block b hlt id
  · refine below_putMap (Below.alloc (h.bel.trans (b24.mono (by omega))) (by omega) _) _ _ _ hw1
  · have e : (fun q => has ((ordOf rs n).take (t + 1)) q) = fun q' => if sEq q' (strAt (ordOf rs n) t) then true else has ((ordOf rs n).take t) q' := by
      funext q'
      rw [has_take_succ _ _ ht, sEq_comm]
      cases sEq q' (strAt (ordOf rs n) t) <;> simp
    rw [e]; exact hput
  · rw [heap_putMap_other _ _ _ _ _ (by omega), Below.heap_alloc _ _ _ (by omega), b24.block _ (by omega)]
    exact h.xb
  · rw [size_putMap]; simp; omega
end Go.Proofs.Qxb6630623a
