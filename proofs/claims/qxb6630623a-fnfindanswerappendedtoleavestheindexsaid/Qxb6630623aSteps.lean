import Derived.Test.Qxb6630623aOwn
/- THE FIRST LOOP's STATE, AND WHAT EACH STATEMENT OF THE ROUND DOES TO IT. -/
namespace Go.Proofs.Qxb6630623a
set_option linter.unusedVariables false
set_option linter.unusedSimpArgs false
open Go.RowKit

def E0 : ByteArray := ByteArray.empty
def EG (rs : List RD) (k : Nat) : ByteArray → List Value := fun q => ints (mdl rs q E0 k)
def EH (rs : List RD) (k : Nat) : ByteArray → Bool := fun q => has (ordOf rs k) q
def RO (rs : List RD) (k : Nat) : ByteArray → List ByteArray := fun q => roOf rs q k
def RG (rs : List RD) (k : Nat) : ByteArray → ByteArray → List Value := fun q r => ints (rmdl rs q r k)
def OG (rs : List RD) (k : Nat) : ByteArray → List Value := fun q => strs (roOf rs q k)

/-- Everything. kL, kE, kO, kR: how many records each part has seen. -/
structure ST (w0 w : World) (own : Nat → Tag) (bE bR bO : Nat) (rs : List RD) (kL kE kO kR : Nat) (ov : Value) (lE lR lO : KV) (hO : ByteArray → Bool) : Prop where
  e : GrpAt w own w0.heap.size 2 tE tEl bE (EG rs kE) (EH rs kE) lE
  r : PR w own w0.heap.size bR (RO rs kR) (RG rs kR) lR
  o : GrpAt w own w0.heap.size 9 tO tOl bO (OG rs kO) hO lO
  l : Rw w own w0.heap.size 9 tOrd ov (strs (ordOf rs kL))
  bel : Below w0.heap.size w0 w

/-- An append's facts. -/
theorem app_facts {w0 w w1 : World} {own : Nat → Tag} {e : Nat} {t : Tag} {v v' : Value} {xs : List Value} {x : Value} {o : Obj} (h : Rw w own w0.heap.size e t v xs) (hbel : Below w0.heap.size w0 w)
    (hown' : w1.ownsRow w0.heap.size e 1 v' (xs.length + 1) (xs ++ [x])) (hgrow : (w.alloc o).grownBy w1 v.ownBlock) (hloc : v'.ownBlock = v.ownBlock ∨ v'.ownBlock = some (w.alloc o).heap.size) :
    Chg own (updOwn own w.heap.size t) w w1 (fun x => x = t) ∧ Rw w1 (updOwn own w.heap.size t) w0.heap.size e t v' (xs ++ [x]) ∧ Below w0.heap.size w0 w1 := by
  have hg : w.grownBy w1 v.ownBlock := (World.grownBy_alloc w o _).trans hgrow
  refine ⟨Chg_grown h.2 hg, Rw_grown h (by simpa using hown') ?_, hbel.grown hg hbel.size (fun k hk => (World.ownsRow.lt h.1 k hk).1)⟩
  rcases hloc with e | e
  · exact .inl e
  · exact .inr ⟨_, e, by simp⟩
theorem same_facts {w : World} {own : Nat → Tag} {B e : Nat} {t : Tag} {v : Value} {xs : List Value} (h : Rw w own B e t v xs) :
    Chg own (updOwn own w.heap.size t) w w (fun x => x = t) ∧ Rw w (updOwn own w.heap.size t) B e t v xs := by
  refine ⟨⟨Nat.le_refl _, fun b hb => updOwn_old _ _ _ _ hb, fun b hb _ => rfl⟩, h.1, fun c hc => ?_⟩
  rw [updOwn_old _ _ _ _ (World.ownsRow.lt h.1 c hc).2]; exact h.2 c hc

section
variable {w0 w w1 : World} {own : Nat → Tag} {bE bR bO : Nat} {rs : List RD} {kL kE kO kR : Nat} {ov : Value} {lE lR lO : KV} {hO : ByteArray → Bool}

/-- order = append(order, pid), where pid is new. -/
theorem ST.order {v' : Value} {own' : Nat → Tag} (h : ST w0 w own bE bR bO rs kL kE kO kR ov lE lR lO hO) (hc : Chg own own' w w1 (fun x => x = tOrd))
    (hv : Rw w1 own' w0.heap.size 9 tOrd v' (strs (ordOf rs (kL + 1)))) (hb : Below w0.heap.size w0 w1) : ST w0 w1 own' bE bR bO rs (kL + 1) kE kO kR v' lE lR lO hO :=
  ⟨h.e.chg hc (by simp [tE, tOrd]) (fun k => by simp [tEl, tOrd]), h.r.chg hc (by simp [tR, tOrd]) (fun q => by simp [tM, tOrd]) (fun q r => by simp [tMl, tOrd]), h.o.chg hc (by simp [tO, tOrd]) (fun k => by simp [tOl, tOrd]), hv, hb⟩

theorem EG_step (k : Nat) : EG rs (k + 1) = fun q => if sEq q (rdAt rs k).pat then ints (snocNew (mdl rs (rdAt rs k).pat E0 k) (rdAt rs k).ev) else EG rs k q := by
  funext q
  simp only [EG, mdl]
  have : emp E0 = true := sEq_self _
  rw [this]
  by_cases e : sEq q (rdAt rs k).pat = true
  · have e' := (sEq_iff _ _).1 e
    subst e'
    simp [sEq_self]
  · have e1 : sEq (rdAt rs k).pat q = false := by rw [sEq_comm]; simpa using e
    simp [e, e1]
theorem EH_step (k : Nat) : EH rs (k + 1) = fun q => if sEq q (rdAt rs k).pat then true else EH rs k q := by
  funext q
  simp only [EH, ordOf]
  by_cases e : sEq q (rdAt rs k).pat = true
  · have e' := (sEq_iff _ _).1 e
    subst e'
    rw [sEq_self]
    split
    · simpa using ‹_›
    · rw [has_snoc, sEq_self]; simp
  · have e1 : sEq (rdAt rs k).pat q = false := by rw [sEq_comm]; simpa using e
    split
    · simp [e]
    · rw [has_snoc, e1]; simp [e]

/-- evs[pid] = l. -/
theorem ST.evs {v' : Value} {k : Nat} (h : ST w0 w own bE bR bO rs kL k kO kR ov lE lR lO hO)
    (hc : Chg own (updOwn own w.heap.size (tEl (rdAt rs k).pat)) w w1 (fun x => x = tEl (rdAt rs k).pat))
    (hv : Rw w1 (updOwn own w.heap.size (tEl (rdAt rs k).pat)) w0.heap.size 2 (tEl (rdAt rs k).pat) v' (ints (snocNew (mdl rs (rdAt rs k).pat E0 k) (rdAt rs k).ev))) (hb : Below w0.heap.size w0 w1) :
    ∃ own' lE', ST w0 (putMap w1 bE (rdAt rs k).pat v') own' bE bR bO rs kL (k + 1) kO kR ov lE' lR lO hO := by
  obtain ⟨hc2, lE', hg⟩ := Grp_put (k := (rdAt rs k).pat) h.e (fun k' e => by simpa [tEl] using e) (fun k' => by simp [tEl, tE]) hc hv
  refine ⟨_, lE', ⟨?_, h.r.chg hc2 (by simp [tE, tR, tEl]) (fun q => by simp [tE, tM, tEl]) (fun q r => by simp [tE, tMl, tEl]), h.o.chg hc2 (by simp [tE, tO, tEl]) (fun q => by simp [tE, tOl, tEl]), h.l.chg hc2 (by simp [tE, tOrd, tEl]), below_putMap hb _ _ _ h.e.2.1⟩⟩
  rw [EG_step, EH_step]; exact hg

/-- refs[pid] = map[string][]int64{}. -/
theorem ST.make {q : ByteArray} (h : ST w0 w own bE bR bO rs kL kE kO kR ov lE lR lO hO) (hq : (look lR q).getD (.map none) = .map none) :
    ∃ own' lR', ST w0 (putMap (w.alloc (.map #[] 0)) bR q (.map (some w.heap.size))) own' bE bR bO rs kL kE kO kR ov lE lR' lO hO ∧ (look lR' q).getD (.map none) = .map (some w.heap.size) := by
  obtain ⟨hc, h1, h2⟩ := PR_make h.r hq h.bel.size
  exact ⟨_, _, ⟨h.e.chg hc (by simp [tE, tR, tM]) (fun q => by simp [tR, tEl, tM]), h1, h.o.chg hc (by simp [tO, tR, tM]) (fun q => by simp [tR, tOl, tM]), h.l.chg hc (by simp [tOrd, tR, tM]), below_putMap (h.bel.alloc h.bel.size _) _ _ _ h.r.2.1⟩, h2⟩

theorem OG_step (k : Nat) (hn : emp (rdAt rs k).ref = false) (hh : has (roOf rs (rdAt rs k).pat k) (rdAt rs k).ref = false) :
    OG rs (k + 1) = fun q => if sEq q (rdAt rs k).pat then strs (roOf rs (rdAt rs k).pat k) ++ [.string (rdAt rs k).ref] else OG rs k q := by
  funext q
  simp only [OG, roOf]
  by_cases e : sEq q (rdAt rs k).pat = true
  · have e' := (sEq_iff _ _).1 e
    subst e'
    simp [sEq_self, hn, hh, strs]
  · have e1 : sEq (rdAt rs k).pat q = false := by rw [sEq_comm]; simpa using e
    simp [e, e1]
theorem OG_keep (k : Nat) (hh : emp (rdAt rs k).ref = true ∨ has (roOf rs (rdAt rs k).pat k) (rdAt rs k).ref = true) : OG rs (k + 1) = OG rs k := by
  funext q
  simp only [OG, roOf]
  rw [if_neg]
  intro h
  simp only [Bool.and_eq_true, Bool.not_eq_true'] at h
  obtain ⟨⟨h1, h2⟩, h3⟩ := h
  rcases hh with e | e
  · rw [h2] at e; cases e
  · rw [(sEq_iff _ _).1 h1, h3] at e; cases e
theorem RO_keep (k : Nat) (hh : emp (rdAt rs k).ref = true) : RO rs (k + 1) = RO rs k := by
  funext q; simp [RO, roOf, hh]
theorem RG_keep (k : Nat) (hh : emp (rdAt rs k).ref = true) : RG rs (k + 1) = RG rs k := by
  funext q r
  simp only [RG, rmdl, mdl]
  by_cases e : emp r = true
  · simp [e]
  · have e0 : emp r = false := by simpa using e
    have : sEq (rdAt rs k).ref r = false := by
      rw [sEq_false]; intro h; rw [h] at hh; exact e hh
    simp [e0, this]

/-- refOrder[pid] = append(refOrder[pid], ref). -/
theorem ST.refOrder {v' : Value} {k : Nat} (h : ST w0 w own bE bR bO rs kL kE k kR ov lE lR lO hO) (hn : emp (rdAt rs k).ref = false) (hh : has (roOf rs (rdAt rs k).pat k) (rdAt rs k).ref = false)
    (hc : Chg own (updOwn own w.heap.size (tOl (rdAt rs k).pat)) w w1 (fun x => x = tOl (rdAt rs k).pat))
    (hv : Rw w1 (updOwn own w.heap.size (tOl (rdAt rs k).pat)) w0.heap.size 9 (tOl (rdAt rs k).pat) v' (strs (roOf rs (rdAt rs k).pat k) ++ [.string (rdAt rs k).ref])) (hb : Below w0.heap.size w0 w1) :
    ∃ own' lO' hO', ST w0 (putMap w1 bO (rdAt rs k).pat v') own' bE bR bO rs kL kE (k + 1) kR ov lE lR lO' hO' ∧ Chg own own' w (putMap w1 bO (rdAt rs k).pat v') (fun x => x = tO ∨ x = tOl (rdAt rs k).pat) := by
  obtain ⟨hc2, lO', hg⟩ := Grp_put (k := (rdAt rs k).pat) h.o (fun k' e => by simpa [tOl] using e) (fun k' => by simp [tOl, tO]) hc hv
  refine ⟨_, lO', (fun k' => if sEq k' (rdAt rs k).pat then true else hO k'), ⟨h.e.chg hc2 (by simp [tE, tO, tOl]) (fun q => by simp [tEl, tO, tOl]), h.r.chg hc2 (by simp [tO, tR, tOl]) (fun q => by simp [tO, tM, tOl]) (fun q r => by simp [tO, tMl, tOl]), ?_, h.l.chg hc2 (by simp [tO, tOrd, tOl]), below_putMap hb _ _ _ h.o.2.1⟩, hc2⟩
  rw [OG_step k hn hh]; exact hg
theorem ST.refOrder_keep {k : Nat} (h : ST w0 w own bE bR bO rs kL kE k kR ov lE lR lO hO) (hh : emp (rdAt rs k).ref = true ∨ has (roOf rs (rdAt rs k).pat k) (rdAt rs k).ref = true) :
    ST w0 w own bE bR bO rs kL kE (k + 1) kR ov lE lR lO hO := ⟨h.e, h.r, by rw [OG_keep k hh]; exact h.o, h.l, h.bel⟩
theorem ST.refs_keep {k : Nat} (h : ST w0 w own bE bR bO rs kL kE kO k ov lE lR lO hO) (hh : emp (rdAt rs k).ref = true) :
    ST w0 w own bE bR bO rs kL kE kO (k + 1) ov lE lR lO hO := ⟨h.e, by rw [RO_keep k hh, RG_keep k hh]; exact h.r, h.o, h.l, h.bel⟩

/-- m[ref] = rl. -/
theorem ST.refs {v' : Value} {k b : Nat} {lm : KV} (h : ST w0 w own bE bR bO rs kL kE kO k ov lE lR lO hO) (hn : emp (rdAt rs k).ref = false)
    (hq : (look lR (rdAt rs k).pat).getD (.map none) = .map (some b))
    (hm : GrpAt w own w0.heap.size 2 (tM (rdAt rs k).pat) (tMl (rdAt rs k).pat) b (RG rs k (rdAt rs k).pat) (fun r => has (RO rs k (rdAt rs k).pat) r) lm)
    (hc : Chg own (updOwn own w.heap.size (tMl (rdAt rs k).pat (rdAt rs k).ref)) w w1 (fun x => x = tMl (rdAt rs k).pat (rdAt rs k).ref))
    (hv : Rw w1 (updOwn own w.heap.size (tMl (rdAt rs k).pat (rdAt rs k).ref)) w0.heap.size 2 (tMl (rdAt rs k).pat (rdAt rs k).ref) v' (ints (snocNew (rmdl rs (rdAt rs k).pat (rdAt rs k).ref k) (rdAt rs k).ev))) (hb : Below w0.heap.size w0 w1) :
    ∃ own', ST w0 (putMap w1 b (rdAt rs k).ref v') own' bE bR bO rs kL kE kO (k + 1) ov lE lR lO hO := by
  obtain ⟨hc2, hg⟩ := Grp_put (k := (rdAt rs k).ref) hm (fun k' e => by simpa [tMl] using e) (fun k' => by simp [tMl, tM]) hc hv
  refine ⟨_, ⟨h.e.chg hc2 (by simp [tE, tM, tMl]) (fun q => by simp [tEl, tM, tMl]), ?_, h.o.chg hc2 (by simp [tO, tM, tMl]) (fun q => by simp [tOl, tM, tMl]), h.l.chg hc2 (by simp [tM, tOrd, tMl]), below_putMap hb _ _ _ hm.2.1⟩⟩
  refine PR_put (q := (rdAt rs k).pat) (r := (rdAt rs k).ref) (b := b) h.r hq hc2 ?_ ?_
  · have e1 : RG rs (k + 1) (rdAt rs k).pat = fun k' => if sEq k' (rdAt rs k).ref then ints (snocNew (rmdl rs (rdAt rs k).pat (rdAt rs k).ref k) (rdAt rs k).ev) else RG rs k (rdAt rs k).pat k' := by
      funext r
      simp only [RG, rmdl, mdl, sEq_self, Bool.true_and]
      by_cases e : sEq r (rdAt rs k).ref = true
      · have e' := (sEq_iff _ _).1 e
        subst e'
        simp [hn, sEq_self]
      · have e2 : sEq (rdAt rs k).ref r = false := by rw [sEq_comm]; simpa using e
        by_cases e3 : emp r = true
        · simp [e, e3]
        · simp [e, e2, e3]
    have e2 : (fun r => has (RO rs (k + 1) (rdAt rs k).pat) r) = fun k' => if sEq k' (rdAt rs k).ref then true else has (RO rs k (rdAt rs k).pat) k' := by
      funext r
      simp only [RO, roOf, sEq_self, hn, Bool.true_and, Bool.not_false]
      by_cases e : sEq r (rdAt rs k).ref = true
      · have e' := (sEq_iff _ _).1 e
        subst e'
        rw [if_pos (sEq_self _)]
        cases hh : has (roOf rs (rdAt rs k).pat k) (rdAt rs k).ref
        · simp [has_snoc, sEq_self]
        · simp [hh]
      · have e2 : sEq (rdAt rs k).ref r = false := by rw [sEq_comm]; simpa using e
        cases hh : has (roOf rs (rdAt rs k).pat k) (rdAt rs k).ref
        · simp [has_snoc, e2, e]
        · simp [e]
    rw [e1, e2]; exact hg
  · intro q' hq'
    have e1 : sEq (rdAt rs k).pat q' = false := by rw [sEq_comm]; exact hq'
    refine ⟨by simp [RO, roOf, e1], ?_⟩
    funext r
    simp [RG, rmdl, mdl, e1]
end
end Go.Proofs.Qxb6630623a
