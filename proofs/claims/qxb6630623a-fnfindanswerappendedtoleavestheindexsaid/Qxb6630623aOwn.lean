import Derived.Test.Qxb6630623aSlack
/- WHO OWNS WHICH BLOCK: maps of slices that the call makes, no two slices in one row. -/
namespace Go.Proofs.Qxb6630623a
set_option linter.unusedVariables false
set_option linter.unusedSimpArgs false
open Go.RowKit

abbrev Tag := Nat × ByteArray × ByteArray
def nilS : Value := .slice none 0 0
def OwnB (own : Nat → Tag) (t : Tag) (v : Value) : Prop := ∀ b, v.ownBlock = some b → own b = t
/-- v is a slice of the cells xs in a row of the tag t. -/
def Rw (w : World) (own : Nat → Tag) (B e : Nat) (t : Tag) (v : Value) (xs : List Value) : Prop := w.ownsRow B e 1 v xs.length xs ∧ OwnB own t v
def GrpAt (w : World) (own : Nat → Tag) (B e : Nat) (tb : Tag) (tl : ByteArray → Tag) (b : Nat) (G : ByteArray → List Value) (hs : ByteArray → Bool) (l : KV) : Prop :=
  own b = tb ∧ B ≤ b ∧ MapIs w b l ∧ ∀ k, Rw w own B e (tl k) ((look l k).getD nilS) (G k) ∧ (look l k).isSome = hs k
def Grp (w : World) (own : Nat → Tag) (B e : Nat) (tb : Tag) (tl : ByteArray → Tag) (b : Nat) (G : ByteArray → List Value) (hs : ByteArray → Bool) : Prop :=
  ∃ l, GrpAt w own B e tb tl b G hs l

/-- What has turned: blocks of the tags T alone; new blocks. -/
structure Chg (own own' : Nat → Tag) (w w' : World) (T : Tag → Prop) : Prop where
  size : w.heap.size ≤ w'.heap.size
  same : ∀ b, b < w.heap.size → own' b = own b
  block : ∀ b, b < w.heap.size → ¬ T (own b) → w'.heap[b]? = w.heap[b]?

theorem ownsRow_same {w w' : World} {B e n : Nat} {v : Value} {xs : List Value} (h : w.ownsRow B e 1 v n xs) (hs : ∀ c, v.ownBlock = some c → w'.heap[c]? = w.heap[c]?) : w'.ownsRow B e 1 v n xs := by
  obtain ⟨h1, h2⟩ := h
  refine ⟨h1, ?_⟩
  rcases h2 with h2 | ⟨g, cap, cur, rfl, h3, h4, h5⟩
  · exact .inl h2
  · exact .inr ⟨g, cap, cur, rfl, h3, (hs g rfl).trans h4, h5⟩

theorem Rw.chg {w w' : World} {own own' : Nat → Tag} {B e : Nat} {t : Tag} {v : Value} {xs : List Value} {T : Tag → Prop} (h : Rw w own B e t v xs) (hc : Chg own own' w w' T) (ht : ¬ T t) : Rw w' own' B e t v xs := by
  refine ⟨ownsRow_same h.1 (fun c hcc => hc.block c (World.ownsRow.lt h.1 c hcc).2 (by rw [h.2 c hcc]; exact ht)), fun c hcc => ?_⟩
  rw [hc.same c (World.ownsRow.lt h.1 c hcc).2]; exact h.2 c hcc
theorem GrpAt.chg {w w' : World} {own own' : Nat → Tag} {B e b : Nat} {tb : Tag} {tl : ByteArray → Tag} {G : ByteArray → List Value} {hs : ByteArray → Bool} {l : KV} {T : Tag → Prop}
    (h : GrpAt w own B e tb tl b G hs l) (hc : Chg own own' w w' T) (htb : ¬ T tb) (htl : ∀ k, ¬ T (tl k)) : GrpAt w' own' B e tb tl b G hs l := by
  obtain ⟨h1, h2, h3, h4⟩ := h
  exact ⟨by rw [hc.same b h3.lt]; exact h1, h2, h3.of_block (hc.block b h3.lt (by rw [h1]; exact htb)), fun k => ⟨(h4 k).1.chg hc (htl k), (h4 k).2⟩⟩
theorem Grp.chg {w w' : World} {own own' : Nat → Tag} {B e b : Nat} {tb : Tag} {tl : ByteArray → Tag} {G : ByteArray → List Value} {hs : ByteArray → Bool} {T : Tag → Prop}
    (h : Grp w own B e tb tl b G hs) (hc : Chg own own' w w' T) (htb : ¬ T tb) (htl : ∀ k, ¬ T (tl k)) : Grp w' own' B e tb tl b G hs := by
  obtain ⟨l, h⟩ := h; exact ⟨l, h.chg hc htb htl⟩

def updOwn (own : Nat → Tag) (n : Nat) (t : Tag) : Nat → Tag := fun c => if c < n then own c else t
theorem updOwn_old (own : Nat → Tag) (n : Nat) (t : Tag) (c : Nat) (h : c < n) : updOwn own n t c = own c := if_pos h
theorem updOwn_new (own : Nat → Tag) (n : Nat) (t : Tag) (c : Nat) (h : n ≤ c) : updOwn own n t c = t := if_neg (by omega)

theorem mapIs_put {w : World} {b : Nat} {l : KV} (k : ByteArray) (v : Value) (h : MapIs w b l) : MapIs (putMap w b k v) b (putKV l k v) :=
  (run_putMap (P := Try.prog) Try.underlying36 Try.underlying9 k v h).2

/-- What an append leaves (or nothing), of the row alone. -/
theorem Chg_grown {w w1 : World} {own : Nat → Tag} {t : Tag} {v : Value} (hown : OwnB own t v) (hg : w.grownBy w1 v.ownBlock) : Chg own (updOwn own w.heap.size t) w w1 (fun x => x = t) :=
  ⟨hg.size, fun b hb => updOwn_old _ _ _ _ hb, fun b hb ht => hg.block b hb (fun e => ht (hown b e.symm))⟩
theorem Rw_grown {w w1 : World} {own : Nat → Tag} {B e : Nat} {t : Tag} {v v' : Value} {xs ys : List Value} (h : Rw w own B e t v xs) (hv : w1.ownsRow B e 1 v' ys.length ys)
    (hloc : v'.ownBlock = v.ownBlock ∨ ∃ c, v'.ownBlock = some c ∧ w.heap.size ≤ c) : Rw w1 (updOwn own w.heap.size t) B e t v' ys := by
  refine ⟨hv, fun c hc => ?_⟩
  rcases hloc with e | ⟨d, e1, e2⟩
  · have hcv : v.ownBlock = some c := by rw [← e]; exact hc
    rw [updOwn_old _ _ _ _ (World.ownsRow.lt h.1 c hcv).2]; exact h.2 c hcv
  · rw [e1] at hc; cases hc; exact updOwn_new _ _ _ _ e2

theorem Grp_put {w w1 : World} {own : Nat → Tag} {B e b : Nat} {tb : Tag} {tl : ByteArray → Tag} {G : ByteArray → List Value} {hs : ByteArray → Bool} {l : KV} {k : ByteArray} {v' : Value} {ys : List Value}
    (h : GrpAt w own B e tb tl b G hs l) (hinj : ∀ k', tl k' = tl k → k' = k) (hne : ∀ k', tl k' ≠ tb)
    (hc : Chg own (updOwn own w.heap.size (tl k)) w w1 (fun x => x = tl k)) (hv : Rw w1 (updOwn own w.heap.size (tl k)) B e (tl k) v' ys) :
    Chg own (updOwn own w.heap.size (tl k)) w (putMap w1 b k v') (fun x => x = tb ∨ x = tl k) ∧
    Grp (putMap w1 b k v') (updOwn own w.heap.size (tl k)) B e tb tl b (fun k' => if sEq k' k then ys else G k') (fun k' => if sEq k' k then true else hs k') := by
  obtain ⟨h1, h2, h3, h4⟩ := h
  have hbo : updOwn own w.heap.size (tl k) b = tb := by rw [updOwn_old _ _ _ _ h3.lt]; exact h1
  have hch : Chg own (updOwn own w.heap.size (tl k)) w (putMap w1 b k v') (fun x => x = tb ∨ x = tl k) := by
    refine ⟨by rw [size_putMap]; exact hc.size, hc.same, fun c hcc ht => ?_⟩
    rw [heap_putMap_other _ _ _ _ _ (fun e => ht (.inl (by rw [e]; exact h1)))]
    exact hc.block c hcc (fun e => ht (.inr e))
  have hm1 : MapIs w1 b l := h3.of_block (hc.block b h3.lt (by rw [h1]; exact fun e => hne k e.symm))
  refine ⟨hch, putKV l k v', hbo, h2, mapIs_put k v' hm1, fun k' => ?_⟩
  rw [look_put]
  by_cases e : sEq k' k = true
  · have e' := (sEq_iff _ _).1 e
    subst e'
    simp only [e, if_true, Option.getD_some, Option.isSome_some, and_true]
    refine ⟨ownsRow_same hv.1 (fun c hcc => heap_putMap_other _ _ _ _ _ (fun e => ?_)), hv.2⟩
    have := hv.2 c hcc
    rw [e, hbo] at this
    exact hne _ this.symm
  · simp only [e, Bool.false_eq_true, if_false]
    refine ⟨(h4 k').1.chg hch ?_, (h4 k').2⟩
    rintro (e2 | e2)
    · exact hne _ e2
    · exact e ((sEq_iff _ _).2 (hinj _ e2))

theorem Grp_made (w w' : World) (own : Nat → Tag) (B e : Nat) (tb : Tag) (tl : ByteArray → Tag) (b : Nat) (hb : own b = tb) (hB : B ≤ b) (hm : MapIs w b []) : Grp w own B e tb tl b (fun _ => []) (fun _ => false) :=
  ⟨[], hb, hB, hm, fun k => ⟨⟨World.ownsRow_nil w B e 1, fun c hc => by cases hc⟩, rfl⟩⟩

/-! ### The state of the first loop -/
def tOrd : Tag := (0, ByteArray.empty, ByteArray.empty)
def tE : Tag := (1, ByteArray.empty, ByteArray.empty)
def tR : Tag := (2, ByteArray.empty, ByteArray.empty)
def tO : Tag := (3, ByteArray.empty, ByteArray.empty)
def tEl (q : ByteArray) : Tag := (4, q, ByteArray.empty)
def tM (q : ByteArray) : Tag := (5, q, ByteArray.empty)
def tMl (q r : ByteArray) : Tag := (6, q, r)
def tOl (q : ByteArray) : Tag := (7, q, ByteArray.empty)

def ints (l : List Int) : List Value := l.map (Value.int .i64)
def strs (l : List ByteArray) : List Value := l.map Value.string

def PR (w : World) (own : Nat → Tag) (B bR : Nat) (RO : ByteArray → List ByteArray) (RG : ByteArray → ByteArray → List Value) (l : KV) : Prop :=
  own bR = tR ∧ B ≤ bR ∧ MapIs w bR l ∧ ∀ q, ((look l q).getD (.map none) = .map none ∧ RO q = [] ∧ ∀ r, RG q r = []) ∨
    ∃ b, (look l q).getD (.map none) = .map (some b) ∧ Grp w own B 2 (tM q) (tMl q) b (RG q) (fun r => has (RO q) r)

theorem PR.chg {w w' : World} {own own' : Nat → Tag} {B bR : Nat} {RO : ByteArray → List ByteArray} {RG : ByteArray → ByteArray → List Value} {l : KV} {T : Tag → Prop}
    (h : PR w own B bR RO RG l) (hc : Chg own own' w w' T) (h0 : ¬ T tR) (h1 : ∀ q, ¬ T (tM q)) (h2 : ∀ q r, ¬ T (tMl q r)) : PR w' own' B bR RO RG l := by
  obtain ⟨a1, a2, a3, a4⟩ := h
  refine ⟨by rw [hc.same bR a3.lt]; exact a1, a2, a3.of_block (hc.block bR a3.lt (by rw [a1]; exact h0)), fun q => ?_⟩
  rcases a4 q with h | ⟨b, e, g⟩
  · exact .inl h
  · exact .inr ⟨b, e, g.chg hc (h1 q) (h2 q)⟩

/-- refs[q] = a new empty map. -/
theorem PR_make {w : World} {own : Nat → Tag} {B bR : Nat} {RO : ByteArray → List ByteArray} {RG : ByteArray → ByteArray → List Value} {l : KV} {q : ByteArray}
    (h : PR w own B bR RO RG l) (hq : (look l q).getD (.map none) = .map none) (hB : B ≤ w.heap.size) :
    Chg own (updOwn own w.heap.size (tM q)) w (putMap (w.alloc (.map #[] 0)) bR q (.map (some w.heap.size))) (fun x => x = tR ∨ x = tM q) ∧
    PR (putMap (w.alloc (.map #[] 0)) bR q (.map (some w.heap.size))) (updOwn own w.heap.size (tM q)) B bR RO RG (putKV l q (.map (some w.heap.size))) ∧
    (look (putKV l q (.map (some w.heap.size))) q).getD (.map none) = .map (some w.heap.size) := by
  obtain ⟨a1, a2, a3, a4⟩ := h
  have hlt := a3.lt
  have hch : Chg own (updOwn own w.heap.size (tM q)) w (putMap (w.alloc (.map #[] 0)) bR q (.map (some w.heap.size))) (fun x => x = tR ∨ x = tM q) := by
    refine ⟨by rw [size_putMap]; simp, fun b hb => updOwn_old _ _ _ _ hb, fun c hcc ht => ?_⟩
    rw [heap_putMap_other _ _ _ _ _ (fun e => ht (.inl (by rw [e]; exact a1)))]
    exact Below.heap_alloc _ _ _ hcc
  have hmm : MapIs (putMap (w.alloc (.map #[] 0)) bR q (.map (some w.heap.size))) w.heap.size [] :=
    (MapIs.made w).of_block (heap_putMap_other _ _ _ _ _ (by omega))
  refine ⟨hch, ⟨by rw [updOwn_old _ _ _ _ hlt]; exact a1, a2, mapIs_put _ _ (a3.alloc _), fun q' => ?_⟩, ?_⟩
  · rw [look_put]
    by_cases e : sEq q' q = true
    · have e' := (sEq_iff _ _).1 e
      subst e'
      simp only [e, if_true, Option.getD_some]
      refine .inr ⟨w.heap.size, rfl, ?_⟩
      rcases a4 q' with ⟨_, r1, r2⟩ | ⟨b, e2, _⟩
      · have := Grp_made (putMap (w.alloc (.map #[] 0)) bR q' (.map (some w.heap.size))) w (updOwn own w.heap.size (tM q')) B 2 (tM q') (tMl q') w.heap.size (updOwn_new _ _ _ _ (Nat.le_refl _)) hB hmm
        have e1 : RG q' = fun _ => [] := funext r2
        have e2 : (fun r => has (RO q') r) = fun _ => false := funext (fun r => by rw [r1]; rfl)
        rw [e1, e2]; exact this
      · rw [hq] at e2; cases e2
    · simp only [e, Bool.false_eq_true, if_false]
      rcases a4 q' with h | ⟨b, e2, g⟩
      · exact .inl h
      · refine .inr ⟨b, e2, g.chg hch ?_ ?_⟩
        · rintro (h | h)
          · simp [tM, tR] at h
          · exact e ((sEq_iff _ _).2 (by simpa [tM] using h))
        · intro r
          rintro (h | h)
          · simp [tMl, tR] at h
          · simp [tMl, tM] at h
  · rw [look_put, sEq_self]; rfl

/-- refs[q][r] = v'. -/
theorem PR_put {w w' : World} {own own' : Nat → Tag} {B bR b : Nat} {RO RO' : ByteArray → List ByteArray} {RG RG' : ByteArray → ByteArray → List Value} {l : KV} {q r : ByteArray}
    (h : PR w own B bR RO RG l) (hq : (look l q).getD (.map none) = .map (some b))
    (hc : Chg own own' w w' (fun x => x = tM q ∨ x = tMl q r))
    (hg : Grp w' own' B 2 (tM q) (tMl q) b (RG' q) (fun r => has (RO' q) r)) (hO : ∀ q', sEq q' q = false → RO' q' = RO q' ∧ RG' q' = RG q') : PR w' own' B bR RO' RG' l := by
  obtain ⟨a1, a2, a3, a4⟩ := h
  refine ⟨by rw [hc.same bR a3.lt]; exact a1, a2, a3.of_block (hc.block bR a3.lt (by rw [a1]; rintro (h | h) <;> simp [tM, tMl, tR] at h)), fun q' => ?_⟩
  cases e : sEq q' q
  · obtain ⟨e1, e2⟩ := hO q' e
    rw [e1, e2]
    have hne := (sEq_false _ _).1 e
    rcases a4 q' with h | ⟨b', e3, g⟩
    · exact .inl h
    · refine .inr ⟨b', e3, g.chg hc ?_ ?_⟩
      · rintro (h | h)
        · exact hne (by simpa [tM] using h)
        · simp [tM, tMl] at h
      · intro r'
        rintro (h | h)
        · simp [tM, tMl] at h
        · exact hne (by simp [tMl] at h; exact h.1)
  · have e' := (sEq_iff _ _).1 e
    subst e'
    exact .inr ⟨b, hq, hg⟩
end Go.Proofs.Qxb6630623a
