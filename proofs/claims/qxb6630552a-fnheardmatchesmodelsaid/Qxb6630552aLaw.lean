import Derived.Test.Qxb6630552aJudge
/- THE PLAIN LAW: what the State holds behind the report, against the model that the test reckons. No Go in sight. -/
namespace Go.Proofs.Qxb6630552a
set_option linter.unusedVariables false
set_option linter.unusedSimpArgs false
open Go.RowKit

/-! ### Counting the last occurrences -/
def lastKey (κ : Nat → ByteArray) (k : Nat) (a : ByteArray) : Int := lastAt (fun i => sEq (κ i) a) k
def cntLast (κ : Nat → ByteArray) (ok : ByteArray → Bool) (k : Nat) : Nat := countTo (fun j => ok (κ j) && (lastKey κ k (κ j) == (j : Int))) k

theorem sEq_self (a : ByteArray) : sEq a a = true := (sEq_iff a a).2 rfl

theorem countTo_congr {p q : Nat → Bool} {n : Nat} (h : ∀ i, i < n → p i = q i) : countTo p n = countTo q n := by
  induction n with
  | zero => rfl
  | succ n ih => simp only [countTo]; rw [h n (by omega), ih (fun i hi => h i (by omega))]
theorem countTo_minus {p q : Nat → Bool} {n m : Nat} (hm : m < n) (hp : p m = true) (hq : q m = false) (h : ∀ i, i < n → i ≠ m → p i = q i) : countTo p n = countTo q n + 1 := by
  induction n with
  | zero => omega
  | succ n ih =>
    simp only [countTo]
    by_cases e : m = n
    · subst e
      rw [hp, hq, countTo_congr (p := p) (q := q) (fun i hi => h i (by omega) (by omega))]
      simp
    · rw [h n (by omega) (Ne.symm e), ih (by omega) (fun i hi hne => h i (by omega) hne)]
      split <;> omega

theorem lastKey_succ (κ : Nat → ByteArray) (k : Nat) (a : ByteArray) : lastKey κ (k + 1) a = if sEq (κ k) a then (k : Int) else lastKey κ k a := rfl
theorem lastKey_cases (κ : Nat → ByteArray) (k : Nat) (a : ByteArray) : (∃ j, j < k ∧ κ j = a ∧ lastKey κ k a = j) ∨ ((∀ j, j < k → κ j ≠ a) ∧ lastKey κ k a = -1) := by
  rcases lastAt_cases (fun i => sEq (κ i) a) k with ⟨j, h1, h2, -, h4⟩ | ⟨h1, h2⟩
  · exact .inl ⟨j, h1, (sEq_iff _ _).1 h2, h4⟩
  · exact .inr ⟨fun j hj q => (by have := h1 j hj; rw [(sEq_iff _ _).2 q] at this; cases this), h2⟩

theorem cntLast_succ (κ : Nat → ByteArray) (ok : ByteArray → Bool) (k : Nat) :
    cntLast κ ok (k + 1) = if ok (κ k) then (if 0 ≤ lastKey κ k (κ k) then cntLast κ ok k else cntLast κ ok k + 1) else cntLast κ ok k := by
  unfold cntLast
  have hk : lastKey κ (k + 1) (κ k) = k := by rw [lastKey_succ, if_pos (sEq_self _)]
  simp only [countTo, hk, beq_self_eq_true, Bool.and_true]
  cases hok : ok (κ k)
  · simp only [Bool.false_eq_true, if_false]
    apply countTo_congr
    intro i hi
    rw [lastKey_succ]
    by_cases e : sEq (κ k) (κ i) = true
    · rw [← (sEq_iff _ _).1 e, hok]; simp
    · rw [if_neg e]
  · simp only [if_true]
    rcases lastKey_cases κ k (κ k) with ⟨j, hj, he, hl⟩ | ⟨hno, hl⟩
    · rw [hl, if_pos (by omega)]
      symm
      refine countTo_minus hj ?_ ?_ ?_
      · rw [he, hok, hl]; simp
      · rw [lastKey_succ, he, if_pos (sEq_self _)]; simp; omega
      · intro i hi hne
        rw [lastKey_succ]
        by_cases e : sEq (κ k) (κ i) = true
        · have e' := (sEq_iff _ _).1 e
          rw [if_pos e, ← e', hl]
          have h1 : ((j : Int) == (i : Int)) = false := by simp; omega
          have h2 : ((k : Int) == (i : Int)) = false := by simp; omega
          rw [h1, h2]
        · rw [if_neg e]
    · rw [hl, if_neg (by omega)]
      congr 1
      apply countTo_congr
      intro i hi
      rw [lastKey_succ, if_neg]
      intro e
      exact hno i hi ((sEq_iff _ _).1 e).symm

/-! ### Entries -/
theorem findNE_put (L : List NE) (x : NE) (a : ByteArray) : findNE (putNE L x) a = if sEq a x.key then some x else findNE L a := by
  unfold findNE
  induction L with
  | nil => simp only [putNE, List.find?_cons, List.find?_nil]; cases sEq a x.key <;> rfl
  | cons p l ih =>
    simp only [putNE]
    by_cases hk : sEq x.key p.key = true
    · have hk' := (sEq_iff _ _).1 hk
      rw [if_pos hk]
      simp only [List.find?_cons, ← hk']
      cases sEq a x.key <;> simp
    · rw [if_neg hk]
      simp only [List.find?_cons]
      by_cases ha : sEq a p.key = true
      · have ha' := (sEq_iff _ _).1 ha
        have : ¬ sEq a x.key = true := by
          intro q; exact hk ((sEq_iff _ _).2 (((sEq_iff _ _).1 q).symm.trans ha'))
        simp [ha, this]
      · have ha2 : sEq a p.key = false := by simpa using ha
        simp only [ha2]
        exact ih
theorem len_putNE (L : List NE) (x : NE) : (putNE L x).length = if (findNE L x.key).isSome then L.length else L.length + 1 := by
  unfold findNE
  induction L with
  | nil => rfl
  | cons p l ih =>
    simp only [putNE, List.find?_cons]
    by_cases hk : sEq x.key p.key = true
    · simp [hk]
    · have hk2 : sEq x.key p.key = false := by simpa using hk
      simp only [hk2, Bool.false_eq_true, if_false, List.length_cons, ih]
      split <;> omega
theorem len_setNE (L : List NE) (e : NE) : (setNE L e).length = L.length := by simp [setNE]

theorem lookH_put (l : List (ByteArray × Int)) (k : ByteArray) (t : Int) (a : ByteArray) : lookH (putH l k t) a = if sEq a k then some t else lookH l a := by
  unfold lookH
  induction l with
  | nil => simp only [putH, List.find?_cons, List.find?_nil]; cases sEq a k <;> rfl
  | cons p l ih =>
    simp only [putH]
    by_cases hk : sEq k p.1 = true
    · have hk' := (sEq_iff _ _).1 hk
      rw [if_pos hk]
      simp only [List.find?_cons, ← hk']
      cases sEq a k <;> simp
    · rw [if_neg hk]
      simp only [List.find?_cons]
      by_cases ha : sEq a p.1 = true
      · have ha' := (sEq_iff _ _).1 ha
        have : ¬ sEq a k = true := by
          intro q; exact hk ((sEq_iff _ _).2 (((sEq_iff _ _).1 q).symm.trans ha'))
        simp [ha, this]
      · have ha2 : sEq a p.1 = false := by simpa using ha
        simp only [ha2]
        exact ih
theorem len_putH (l : List (ByteArray × Int)) (k : ByteArray) (t : Int) : (putH l k t).length = if (lookH l k).isSome then l.length else l.length + 1 := by
  unfold lookH
  induction l with
  | nil => rfl
  | cons p l ih =>
    simp only [putH, List.find?_cons]
    by_cases hk : sEq k p.1 = true
    · simp [hk]
    · have hk2 : sEq k p.1 = false := by simpa using hk
      simp only [hk2, Bool.false_eq_true, if_false, List.length_cons, ih]
      split <;> omega

theorem findNE_set' {L : List NE} {e1 : NE} {kk : ByteArray} (hk : e1.key = kk) (hs : (findNE L kk).isSome = true) (a : ByteArray) : findNE (setNE L e1) a = if sEq a kk then some e1 else findNE L a := by
  rw [findNE_set]
  by_cases ha : sEq a kk = true
  · have ha' := (sEq_iff _ _).1 ha
    subst ha'
    rw [if_pos ha]
    obtain ⟨x, hx⟩ := Option.isSome_iff_exists.1 hs
    rw [hx]
    simp only [Option.map_some]
    rw [if_pos (by rw [hk, findNE_key hx]; exact sEq_self _)]
  · rw [if_neg ha]
    cases hx : findNE L a with
    | none => rfl
    | some x =>
      simp only [Option.map_some]
      rw [if_neg]
      rw [hk, findNE_key hx]
      intro q
      exact ha (by rw [sEq_comm]; exact q)

/-! ### What was built -/
def kN (ns : List ND) (j : Nat) : ByteArray := (ndAt ns j).addr
structure FromND (e : NE) (x : ND) : Prop where
  key : e.key = x.addr
  seen : e.seen = x.seen
  rep : e.rep = x.rep
  reping : e.reping = x.reping
  dis : e.dis = x.dis
  hv : e.hv.isNone = x.oa.isNone
  hl : e.hl = oldTo x.old x.old.length

theorem built_find {ns : List ND} {k : Nat} {L : List NE} (hb : Built ns k L) (a : ByteArray) :
    (∃ j e, j < k ∧ findNE L a = some e ∧ lastKey (kN ns) k a = j ∧ FromND e (ndAt ns j)) ∨ (findNE L a = none ∧ lastKey (kN ns) k a = -1) := by
  induction k generalizing L with
  | zero => cases hb; exact .inr ⟨rfl, rfl⟩
  | succ k ih =>
    obtain ⟨L0, blk, hv, h0, hn, rfl⟩ := hb
    rw [findNE_put, lastKey_succ]
    by_cases hk : sEq a (ndAt ns k).addr = true
    · refine .inl ⟨k, _, by omega, by rw [if_pos hk], by rw [if_pos (by rw [sEq_comm]; exact hk)], ⟨rfl, rfl, rfl, rfl, rfl, hn, rfl⟩⟩
    · rw [if_neg hk, if_neg (by rw [sEq_comm]; exact hk)]
      rcases ih h0 with ⟨j, e, h1, h2, h3, h4⟩ | h
      · exact .inl ⟨j, e, by omega, h2, h3, h4⟩
      · exact .inr h
theorem built_mem {ns : List ND} {k : Nat} {L : List NE} (hb : Built ns k L) : ∀ e ∈ L, ∃ j, j < k ∧ FromND e (ndAt ns j) := by
  induction k generalizing L with
  | zero => cases hb; intro e he; cases he
  | succ k ih =>
    obtain ⟨L0, blk, hv, h0, hn, rfl⟩ := hb
    intro e he
    rcases mem_putNE he with rfl | he
    · exact ⟨k, by omega, ⟨rfl, rfl, rfl, rfl, rfl, hn, rfl⟩⟩
    · obtain ⟨j, h1, h2⟩ := ih h0 e he
      exact ⟨j, by omega, h2⟩
theorem built_len {ns : List ND} {k : Nat} {L : List NE} (hb : Built ns k L) : L.length = cntLast (kN ns) (fun _ => true) k := by
  induction k generalizing L with
  | zero => cases hb; rfl
  | succ k ih =>
    obtain ⟨L0, blk, hv, h0, hn, rfl⟩ := hb
    rw [len_putNE, cntLast_succ, ih h0]
    simp only [if_true]
    rcases built_find h0 (ndAt ns k).addr with ⟨j, e, h1, h2, h3, h4⟩ | ⟨h1, h2⟩
    · rw [h2, show kN ns k = (ndAt ns k).addr from rfl, h3, if_pos (by rfl), if_pos (by omega)]
    · rw [h1, show kN ns k = (ndAt ns k).addr from rfl, h2, if_neg (by simp), if_neg (by omega)]
theorem distinct_eq (ns : List ND) : distinctNodes ns = cntLast (kN ns) (fun _ => true) ns.length := by
  unfold distinctNodes cntLast
  apply countTo_congr
  intro i hi
  simp only [Bool.true_and]
  rfl

/-! ### The old keys -/
theorem old_look (old : List ByteArray) (k : Nat) (a : ByteArray) : lookH (oldTo old k) a = if 0 ≤ lastKey (strAt old) k a then some 0 else none := by
  induction k with
  | zero => rfl
  | succ k ih =>
    rw [oldTo, lookH_put, lastKey_succ, ih]
    rw [sEq_comm (strAt old k) a]
    cases sEq a (strAt old k)
    · simp
    · simp
theorem first_iff (old : List ByteArray) (k : Nat) (hk : k < old.length) : firstB old k = true ↔ lastKey (strAt old) k (strAt old k) = -1 := by
  unfold firstB indexStr
  rw [beq_iff_eq]
  rcases firstAt_cases (fun j => sEq (strAt old j) (strAt old k)) old.length with ⟨j, h1, h2, h3, h4⟩ | ⟨h1, h2⟩
  · rw [h4]
    rcases lastKey_cases (strAt old) k (strAt old k) with ⟨m, q1, q2, q3⟩ | ⟨q1, q2⟩
    · rw [q3]
      constructor
      · intro e
        have e' : j = k := by omega
        subst e'
        have := h3 m q1
        rw [q2, sEq_self] at this
        cases this
      · intro e; omega
    · rw [q2]
      simp only [iff_true]
      have : ¬ j < k := fun q => q1 j q ((sEq_iff _ _).1 h2)
      have h5 : ¬ k < j := fun q => by
        have := h3 k q
        rw [sEq_self] at this
        cases this
      omega
  · have := h1 k hk
    rw [sEq_self] at this
    cases this
theorem old_len (old : List ByteArray) (k : Nat) (hk : k ≤ old.length) : (oldTo old k).length = countTo (firstB old) k := by
  induction k with
  | zero => rfl
  | succ k ih =>
    rw [oldTo, len_putH, old_look, ih (by omega)]
    simp only [countTo]
    have hf := first_iff old k (by omega)
    rcases lastKey_cases (strAt old) k (strAt old k) with ⟨m, q1, q2, q3⟩ | ⟨q1, q2⟩
    · rw [q3] at hf ⊢
      have : ¬ firstB old k = true := fun q => by have := hf.1 q; omega
      rw [if_pos (show (0 : Int) ≤ (m : Int) by omega), if_neg this]
      simp
    · rw [q2] at hf ⊢
      have hx := hf.2 rfl
      simp [hx]
theorem old_lookFirst (old : List ByteArray) (j : Nat) (hj : j < old.length) : lookH (oldTo old old.length) (strAt old j) = some 0 := by
  rw [old_look]
  rcases lastKey_cases (strAt old) old.length (strAt old j) with ⟨m, q1, q2, q3⟩ | ⟨q1, q2⟩
  · rw [q3, if_pos (by omega)]
  · exact (q1 j hj rfl).elim

/-! ### The report -/
def kH (hs : List HD) (j : Nat) : ByteArray := (hdAt hs j).addr
/-- The heard map behind the first k entries. -/
def recTo (ok : ByteArray → Bool) (now : Int) (hs : List HD) : Nat → List (ByteArray × Int)
  | 0 => []
  | k + 1 => if ok (kH hs k) then putH (recTo ok now hs k) (kH hs k) (vouched now (hdAt hs k).ago) else recTo ok now hs k
/-- The time at which the node of address a was last seen, behind the first k entries. -/
def seenTo (ok : Bool) (now : Int) (hs : List HD) (a : ByteArray) (s0 : Int) : Nat → Int
  | 0 => s0
  | k + 1 => if ok = true ∧ sEq (kH hs k) a = true ∧ seenTo ok now hs a s0 k < vouched now (hdAt hs k).ago then vouched now (hdAt hs k).ago else seenTo ok now hs a s0 k

theorem rec_look (ok : ByteArray → Bool) (now : Int) (hs : List HD) (k : Nat) (a : ByteArray) (ha : ok a = true) :
    (∃ j, j < k ∧ lastKey (kH hs) k a = j ∧ lookH (recTo ok now hs k) a = some (vouched now (hdAt hs j).ago)) ∨ (lastKey (kH hs) k a = -1 ∧ lookH (recTo ok now hs k) a = none) := by
  induction k with
  | zero => exact .inr ⟨rfl, rfl⟩
  | succ k ih =>
    rw [lastKey_succ, recTo]
    by_cases hk : sEq (kH hs k) a = true
    · have hk' := (sEq_iff _ _).1 hk
      left
      refine ⟨k, by omega, by rw [if_pos hk], ?_⟩
      rw [if_pos (by rw [hk']; exact ha), lookH_put, if_pos (by rw [sEq_comm]; exact hk)]
    · rw [if_neg hk]
      have : lookH (if ok (kH hs k) then putH (recTo ok now hs k) (kH hs k) (vouched now (hdAt hs k).ago) else recTo ok now hs k) a = lookH (recTo ok now hs k) a := by
        split
        · rw [lookH_put, if_neg (by rw [sEq_comm]; exact hk)]
        · rfl
      rw [this]
      rcases ih with ⟨j, h1, h2, h3⟩ | h
      · exact .inl ⟨j, by omega, h2, h3⟩
      · exact .inr h
theorem rec_len (ok : ByteArray → Bool) (now : Int) (hs : List HD) (k : Nat) : (recTo ok now hs k).length = cntLast (kH hs) ok k := by
  induction k with
  | zero => rfl
  | succ k ih =>
    rw [cntLast_succ, recTo]
    cases hok : ok (kH hs k)
    · simp only [Bool.false_eq_true, if_false]; exact ih
    · simp only [if_true]
      rw [len_putH, ih]
      rcases rec_look ok now hs k (kH hs k) hok with ⟨j, h1, h2, h3⟩ | ⟨h1, h2⟩
      · simp [h2, h3]
      · simp [h1, h2]

/-- What the k-th round leaves of the entry e of address a. -/
structure HeardAs (addr : ByteArray) (ms : List ByteArray) (now : Int) (mem : Bool) (ok : ByteArray → Bool) (hs : List HD) (k : Nat) (a : ByteArray) (e e' : NE) : Prop where
  rep : e'.rep = e.rep
  reping : e'.reping = e.reping
  dis : e'.dis = e.dis
  hv : e'.hv = e.hv
  seen : e'.seen = seenTo (mem && !e.dis && decide (0 ≤ indexStr ms a)) now hs a e.seen k
  hl : e'.hl = if sEq a addr then recTo ok now hs k else e.hl

theorem heard_find (addr : ByteArray) (ms : List ByteArray) (now : Int) (mem : Bool) (B : List NE) (hs : List HD) (n0 : NE) (hn0 : findNE B addr = some n0) (hl0 : n0.hl = []) (k : Nat) :
    (∀ a, findNE B a = none → findNE (heardTo addr ms now mem B hs k) a = none) ∧
    (∀ a e, findNE B a = some e → ∃ e', findNE (heardTo addr ms now mem B hs k) a = some e' ∧ HeardAs addr ms now mem (fun b => (findNE B b).isSome && decide (0 ≤ indexStr ms b)) hs k a e e') := by
  induction k with
  | zero =>
    refine ⟨fun a h => h, fun a e h => ⟨e, h, rfl, rfl, rfl, rfl, rfl, ?_⟩⟩
    by_cases ha : sEq a addr = true
    · have := (sEq_iff _ _).1 ha
      subst this
      rw [hn0] at h
      cases h
      rw [if_pos ha, hl0]; rfl
    · rw [if_neg ha]
  | succ k ih =>
    obtain ⟨ih1, ih2⟩ := ih
    show (∀ a, findNE B a = none → findNE (stepL addr ms now mem (heardTo addr ms now mem B hs k) (hdAt hs k)) a = none) ∧ (∀ a e, findNE B a = some e → ∃ e', findNE (stepL addr ms now mem (heardTo addr ms now mem B hs k) (hdAt hs k)) a = some e' ∧ _)
    generalize heardTo addr ms now mem B hs k = H at *
    obtain ⟨n, hn, hn'⟩ := ih2 addr n0 hn0
    have hxa : (hdAt hs k).addr = kH hs k := rfl
    -- what the sums come to where this entry counts for nothing
    have idle : ¬ ((findNE B (kH hs k)).isSome = true ∧ 0 ≤ indexStr ms (kH hs k)) → ∀ a e e', findNE B a = some e → HeardAs addr ms now mem (fun b => (findNE B b).isSome && decide (0 ≤ indexStr ms b)) hs k a e e' → HeardAs addr ms now mem (fun b => (findNE B b).isSome && decide (0 ≤ indexStr ms b)) hs (k + 1) a e e' := by
      intro hno a e e' hae h
      refine ⟨h.rep, h.reping, h.dis, h.hv, ?_, ?_⟩
      · rw [h.seen, seenTo, if_neg]
        rintro ⟨q1, q2, -⟩
        have := (sEq_iff _ _).1 q2
        subst this
        simp only [Bool.and_eq_true, decide_eq_true_eq] at q1
        exact hno ⟨by rw [hae]; rfl, q1.2⟩
      · have hr : recTo (fun b => (findNE B b).isSome && decide (0 ≤ indexStr ms b)) now hs (k + 1) = recTo (fun b => (findNE B b).isSome && decide (0 ≤ indexStr ms b)) now hs k := by
          rw [recTo, if_neg (by simpa using hno)]
        rw [h.hl, hr]
    cases hfx : findNE H (kH hs k) with
    | none =>
      have hB : findNE B (kH hs k) = none := by
        cases hq : findNE B (kH hs k) with
        | none => rfl
        | some e =>
          obtain ⟨e', h1, -⟩ := ih2 _ e hq
          rw [hfx] at h1
          cases h1
      have hst : stepL addr ms now mem H (hdAt hs k) = H := by unfold stepL; rw [hxa, hfx]
      rw [hst]
      refine ⟨ih1, fun a e h => ?_⟩
      obtain ⟨e', h1, h2⟩ := ih2 a e h
      exact ⟨e', h1, idle (by rw [hB]; simp) a e e' h h2⟩
    | some o =>
      have hB : (findNE B (kH hs k)).isSome = true := by
        cases hq : findNE B (kH hs k) with
        | none => rw [ih1 _ hq] at hfx; cases hfx
        | some e => rfl
      by_cases hix : indexStr ms (kH hs k) < 0
      · have hst : stepL addr ms now mem H (hdAt hs k) = H := by unfold stepL; rw [hxa, hfx, hn]; simp only []; rw [if_pos hix]
        rw [hst]
        refine ⟨ih1, fun a e h => ?_⟩
        obtain ⟨e', h1, h2⟩ := ih2 a e h
        exact ⟨e', h1, idle (by intro q; omega) a e e' h h2⟩
      · have hokk : ((findNE B (kH hs k)).isSome && decide (0 ≤ indexStr ms (kH hs k))) = true := by rw [hB]; simp; omega
        generalize hv : vouched now (hdAt hs k).ago = v at *
        have hf1 := findNE_set' (L := H) (e1 := { n with hl := putH n.hl (kH hs k) v }) (kk := addr) (show n.key = addr from findNE_key hn) (by rw [hn]; rfl)
        have hst : stepL addr ms now mem H (hdAt hs k) =
            (match findNE (setNE H { n with hl := putH n.hl (kH hs k) v }) (kH hs k) with
            | some o => if mem = true ∧ o.dis = false ∧ o.seen < v then setNE (setNE H { n with hl := putH n.hl (kH hs k) v }) { o with seen := v } else setNE H { n with hl := putH n.hl (kH hs k) v }
            | none => setNE H { n with hl := putH n.hl (kH hs k) v }) := by
          unfold stepL; rw [hxa, hfx, hn]; simp only []; rw [if_neg hix, hv]; rfl
        generalize hL1 : setNE H { n with hl := putH n.hl (kH hs k) v } = L1 at *
        -- behind the first store
        have j1 : ∀ a, findNE B a = none → findNE L1 a = none := by
          intro a h
          rw [hf1, if_neg, ih1 a h]
          intro q
          have := (sEq_iff _ _).1 q
          subst this
          rw [hn0] at h
          cases h
        have j2 : ∀ a e, findNE B a = some e → ∃ e', findNE L1 a = some e' ∧ e'.rep = e.rep ∧ e'.reping = e.reping ∧ e'.dis = e.dis ∧ e'.hv = e.hv ∧ e'.seen = seenTo (mem && !e.dis && decide (0 ≤ indexStr ms a)) now hs a e.seen k ∧
            e'.hl = if sEq a addr then recTo (fun b => (findNE B b).isSome && decide (0 ≤ indexStr ms b)) now hs (k + 1) else e.hl := by
          intro a e h
          rw [hf1]
          by_cases ha : sEq a addr = true
          · have := (sEq_iff _ _).1 ha
            subst this
            obtain ⟨e', h1, h2⟩ := ih2 _ e h
            rw [hn] at h1
            cases h1
            refine ⟨{ n with hl := putH n.hl (kH hs k) v }, by rw [if_pos ha], h2.rep, h2.reping, h2.dis, h2.hv, h2.seen, ?_⟩
            simp only [if_pos ha]
            rw [h2.hl, if_pos ha, recTo, if_pos hokk, hv]
          · obtain ⟨e', h1, h2⟩ := ih2 _ e h
            refine ⟨e', by rw [if_neg ha]; exact h1, h2.rep, h2.reping, h2.dis, h2.hv, h2.seen, ?_⟩
            rw [h2.hl, if_neg ha, if_neg ha]
        obtain ⟨eb, heb⟩ := Option.isSome_iff_exists.1 hB
        obtain ⟨o1, ho1, r1, r2, r3, r4, r5, r6⟩ := j2 _ eb heb
        rw [hst, ho1]
        simp only []
        by_cases hc : mem = true ∧ o1.dis = false ∧ o1.seen < v
        · rw [if_pos hc]
          have hf2 := findNE_set' (L := L1) (e1 := { o1 with seen := v }) (kk := kH hs k) (show o1.key = kH hs k from findNE_key ho1) (by rw [ho1]; rfl)
          refine ⟨fun a h => ?_, fun a e h => ?_⟩
          · rw [hf2, if_neg, j1 a h]
            intro q
            have := (sEq_iff _ _).1 q
            subst this
            rw [h] at hB
            cases hB
          · rw [hf2]
            by_cases ha : sEq a (kH hs k) = true
            · have := (sEq_iff _ _).1 ha
              subst this
              rw [heb] at h
              cases h
              refine ⟨{ o1 with seen := v }, by rw [if_pos ha], r1, r2, r3, r4, ?_, r6⟩
              rw [seenTo, hv, if_pos]
              refine ⟨?_, ha, by rw [← r5]; exact hc.2.2⟩
              simp only [Bool.and_eq_true, decide_eq_true_eq]
              exact ⟨⟨hc.1, by rw [← r3, hc.2.1]; rfl⟩, by omega⟩
            · obtain ⟨e', h1, q1, q2, q3, q4, q5, q6⟩ := j2 a e h
              refine ⟨e', by rw [if_neg ha]; exact h1, q1, q2, q3, q4, ?_, q6⟩
              rw [q5, seenTo, if_neg]
              rintro ⟨-, q, -⟩
              exact ha (by rw [sEq_comm]; exact q)
        · rw [if_neg hc]
          refine ⟨j1, fun a e h => ?_⟩
          obtain ⟨e', h1, q1, q2, q3, q4, q5, q6⟩ := j2 a e h
          refine ⟨e', h1, q1, q2, q3, q4, ?_, q6⟩
          rw [q5, seenTo, hv, if_neg]
          rintro ⟨c1, c2, c3⟩
          have := (sEq_iff _ _).1 c2
          subst this
          rw [heb] at h
          cases h
          rw [ho1] at h1
          cases h1
          simp only [Bool.and_eq_true, decide_eq_true_eq] at c1
          exact hc ⟨c1.1.1, by rw [r3]; simpa using c1.1.2, by rw [r5]; exact c3⟩
theorem heard_len (addr : ByteArray) (ms : List ByteArray) (now : Int) (mem : Bool) (B : List NE) (hs : List HD) (k : Nat) : (heardTo addr ms now mem B hs k).length = B.length := by
  induction k with
  | zero => rfl
  | succ k ih =>
    rw [heardTo]
    unfold stepL
    split
    · split
      · exact ih
      · split
        · split
          · rw [len_setNE, len_setNE]; exact ih
          · rw [len_setNE]; exact ih
        · rw [len_setNE]; exact ih
    · exact ih

/-! ### What the test reckons -/
def wantSeen (ms : List ByteArray) (ns : List ND) (addr : ByteArray) (hs : List HD) (now : Int) (x : ND) : Int :=
  if 0 ≤ lastNode ns addr ∧ 0 ≤ indexStr ms addr ∧ x.dis = false ∧ 0 ≤ indexStr ms x.addr then seenTo true now hs x.addr x.seen hs.length else x.seen
def wantReping (ft now : Int) (x : ND) : Int := if ft.tdiv 2 < now - x.rep then now else x.reping

structure EntryOk (ft now : Int) (ms : List ByteArray) (ns : List ND) (addr : ByteArray) (hs : List HD) (i : Nat) (e : NE) : Prop where
  dis : e.dis = (ndAt ns i).dis
  seen : e.seen = wantSeen ms ns addr hs now (ndAt ns i)
  own : (i : Int) = lastNode ns addr → e.rep = now ∧ e.reping = wantReping ft now (ndAt ns i) ∧ e.hv.isNone = false ∧
    (∀ j, j < hs.length → validB ms ns hs j = true → lookH e.hl (hdAt hs j).addr = some (vouched now (hdAt hs j).ago)) ∧ e.hl.length = countTo (validB ms ns hs) hs.length
  other : (i : Int) ≠ lastNode ns addr → e.rep = (ndAt ns i).rep ∧ e.reping = (ndAt ns i).reping ∧ e.hv.isNone = (ndAt ns i).oa.isNone ∧
    (∀ j, j < (ndAt ns i).old.length → firstB (ndAt ns i).old j = true → lookH e.hl (strAt (ndAt ns i).old j) = some 0) ∧ e.hl.length = countTo (firstB (ndAt ns i).old) (ndAt ns i).old.length
structure Good (ft now : Int) (ms : List ByteArray) (ns : List ND) (addr : ByteArray) (hs : List HD) (L' : List NE) : Prop where
  len : L'.length = distinctNodes ns
  each : ∀ i, i < ns.length → lastNode ns (ndAt ns i).addr = i → ∃ e, findNE L' (ndAt ns i).addr = some e ∧ EntryOk ft now ms ns addr hs i e

theorem seenTo_false (now : Int) (hs : List HD) (a : ByteArray) (s0 : Int) (k : Nat) : seenTo false now hs a s0 k = s0 := by
  induction k with
  | zero => rfl
  | succ k ih => rw [seenTo, if_neg (by simp), ih]
theorem seenTo_bound (ok : Bool) (now : Int) (hs : List HD) (a : ByteArray) (s0 : Int) (k n : Nat) (hk : k ≤ n) (h1 : -1152921504606846976 ≤ now) (h2 : now ≤ 1152921504606846976) (h3 : ∀ j, j < n → (hdAt hs j).ago ≤ 1152921504606846976) (h4 : -1152921504606846976 ≤ s0) (h5 : s0 ≤ 1152921504606846976) :
    -2305843009213693952 ≤ seenTo ok now hs a s0 k ∧ seenTo ok now hs a s0 k ≤ 1152921504606846976 := by
  induction k with
  | zero => rw [seenTo]; omega
  | succ k ih =>
    rw [seenTo]
    split
    · have := h3 k (by omega)
      unfold vouched
      omega
    · exact ih (by omega)

theorem old_ok {e : NE} {x : ND} (h : FromND e x) : e.hv.isNone = x.oa.isNone ∧ (∀ j, j < x.old.length → firstB x.old j = true → lookH e.hl (strAt x.old j) = some 0) ∧ e.hl.length = countTo (firstB x.old) x.old.length :=
  ⟨h.hv, fun j hj _ => by rw [h.hl]; exact old_lookFirst _ j hj, by rw [h.hl]; exact old_len _ _ (Nat.le_refl _)⟩

theorem lastNode_key (ns : List ND) (a : ByteArray) : lastNode ns a = lastKey (kN ns) ns.length a := rfl

theorem good_none {ft now : Int} {ms : List ByteArray} {ns : List ND} {addr : ByteArray} {hs : List HD} {L : List NE} (hb : Built ns ns.length L) (hf : findNE L addr = none) : Good ft now ms ns addr hs L := by
  have ht : lastNode ns addr = -1 := by
    rcases built_find hb addr with ⟨j, e, -, h2, -⟩ | ⟨-, h2⟩
    · rw [hf] at h2; cases h2
    · exact h2
  refine ⟨by rw [built_len hb, distinct_eq], fun i hi hl => ?_⟩
  rcases built_find hb (ndAt ns i).addr with ⟨j, e, h1, h2, h3, h4⟩ | ⟨-, h2⟩
  · rw [lastNode_key, h3] at hl
    have hji : j = i := by omega
    subst hji
    refine ⟨e, h2, h4.dis, ?_, fun q => by omega, fun _ => ?_⟩
    · rw [h4.seen]; unfold wantSeen; rw [if_neg (by rw [ht]; omega)]
    · exact ⟨h4.rep, h4.reping, old_ok h4⟩
  · rw [lastNode_key, h2] at hl; omega

theorem good_some {ft now : Int} {ms : List ByteArray} {ns : List ND} {addr : ByteArray} {hs : List HD} {L : List NE} (hb : Built ns ns.length L) {e0 : NE} (hf : findNE L addr = some e0) (g : Nat) :
    Good ft now ms ns addr hs (heardTo addr ms now (decide (0 ≤ indexStr ms addr)) (setNE L (startNE e0 g now ft)) hs hs.length) := by
  obtain ⟨t, ht1, ht2, ht3⟩ : ∃ t, t < ns.length ∧ lastNode ns addr = (t : Nat) ∧ FromND e0 (ndAt ns t) := by
    rcases built_find hb addr with ⟨j, e, h1, h2, h3, h4⟩ | ⟨h1, -⟩
    · rw [hf] at h2; cases h2; exact ⟨j, h1, h3, h4⟩
    · rw [hf] at h1; cases h1
  have hkey : e0.key = addr := findNE_key hf
  have hB := findNE_set' (L := L) (e1 := startNE e0 g now ft) (kk := addr) (show e0.key = addr from hkey) (by rw [hf]; rfl)
  have hsome : ∀ b, (findNE (setNE L (startNE e0 g now ft)) b).isSome = decide (0 ≤ lastNode ns b) := by
    intro b
    rw [hB]
    rcases built_find hb b with ⟨j, e, h1, h2, h3, h4⟩ | ⟨h1, h2⟩
    · rw [lastNode_key, h3, h2]
      have : (0 : Int) ≤ (j : Int) := by omega
      split <;> simp
    · rw [lastNode_key, h2, h1, if_neg]
      · rfl
      · intro q
        have := (sEq_iff _ _).1 q
        rw [this, hf] at h1
        cases h1
  have hn0 : findNE (setNE L (startNE e0 g now ft)) addr = some (startNE e0 g now ft) := by rw [hB, if_pos (sEq_self _)]
  obtain ⟨-, hfind⟩ := heard_find addr ms now (decide (0 ≤ indexStr ms addr)) (setNE L (startNE e0 g now ft)) hs (startNE e0 g now ft) hn0 rfl hs.length
  have hok : (fun b => (findNE (setNE L (startNE e0 g now ft)) b).isSome && decide (0 ≤ indexStr ms b)) = (fun b => decide (0 ≤ lastNode ns b) && decide (0 ≤ indexStr ms b)) := by
    funext b; rw [hsome]
  rw [hok] at hfind
  refine ⟨by rw [heard_len, len_setNE, built_len hb, distinct_eq], fun i hi hl => ?_⟩
  rcases built_find hb (ndAt ns i).addr with ⟨j, e, h1, h2, h3, h4⟩ | ⟨-, h2⟩
  · rw [lastNode_key, h3] at hl
    have hji : j = i := by omega
    subst hji
    have hseen : ∀ s0 d, s0 = (ndAt ns j).seen → d = (ndAt ns j).dis → seenTo (decide (0 ≤ indexStr ms addr) && !d && decide (0 ≤ indexStr ms (ndAt ns j).addr)) now hs (ndAt ns j).addr s0 hs.length = wantSeen ms ns addr hs now (ndAt ns j) := by
      rintro s0 d rfl rfl
      unfold wantSeen
      by_cases hc : 0 ≤ lastNode ns addr ∧ 0 ≤ indexStr ms addr ∧ (ndAt ns j).dis = false ∧ 0 ≤ indexStr ms (ndAt ns j).addr
      · rw [if_pos hc]
        obtain ⟨-, c2, c3, c4⟩ := hc
        simp [c2, c3, c4]
      · rw [if_neg hc]
        have : (decide (0 ≤ indexStr ms addr) && !(ndAt ns j).dis && decide (0 ≤ indexStr ms (ndAt ns j).addr)) = false := by
          rw [Bool.eq_false_iff]
          intro q
          simp only [Bool.and_eq_true, decide_eq_true_eq, Bool.not_eq_true'] at q
          exact hc ⟨by omega, q.1.1, q.1.2, q.2⟩
        rw [this, seenTo_false]
    by_cases hown : sEq (ndAt ns j).addr addr = true
    · have ha := (sEq_iff _ _).1 hown
      have hjt : (j : Int) = lastNode ns addr := by rw [← ha, lastNode_key, h3]
      have heq : e = e0 := by rw [ha, hf] at h2; cases h2; rfl
      subst heq
      obtain ⟨e', f1, f2⟩ := hfind (ndAt ns j).addr (startNE e g now ft) (by rw [ha]; exact hn0)
      refine ⟨e', f1, by rw [f2.dis]; exact h4.dis, by rw [f2.seen]; exact hseen _ _ h4.seen h4.dis, fun _ => ⟨f2.rep, ?_, by rw [f2.hv]; rfl, fun m hm hv => ?_, ?_⟩, fun q => (q hjt).elim⟩
      · rw [f2.reping]
        show (if ft.tdiv 2 < now - e.rep then now else e.reping) = _
        rw [h4.rep, h4.reping]; rfl
      · rw [f2.hl, if_pos hown]
        unfold validB at hv
        simp only [Bool.and_eq_true, decide_eq_true_eq, beq_iff_eq] at hv
        rcases rec_look (fun b => decide (0 ≤ lastNode ns b) && decide (0 ≤ indexStr ms b)) now hs hs.length (hdAt hs m).addr (by simp [hv.1.1, hv.1.2]) with ⟨q, -, q2, q3⟩ | ⟨q1, -⟩
        · have hq : lastKey (kH hs) hs.length (hdAt hs m).addr = m := hv.2
          rw [q2] at hq
          have : q = m := by omega
          subst this
          exact q3
        · have hq : lastKey (kH hs) hs.length (hdAt hs m).addr = m := hv.2
          omega
      · rw [f2.hl, if_pos hown, rec_len]
        unfold cntLast
        apply countTo_congr
        intro m hm
        rfl
    · have hjt : (j : Int) ≠ lastNode ns addr := by
        intro q
        rw [ht2] at q
        have : j = t := by omega
        subst this
        apply hown
        rw [← ht3.key, hkey]
        exact sEq_self _
      obtain ⟨e', f1, f2⟩ := hfind (ndAt ns j).addr e (by rw [hB, if_neg hown]; exact h2)
      refine ⟨e', f1, by rw [f2.dis]; exact h4.dis, by rw [f2.seen]; exact hseen _ _ h4.seen h4.dis, fun q => (hjt q).elim, fun _ => ⟨f2.rep.trans h4.rep, f2.reping.trans h4.reping, ?_⟩⟩
      have hl' : e'.hl = e.hl := by rw [f2.hl, if_neg hown]
      obtain ⟨o1, o2, o3⟩ := old_ok h4
      exact ⟨by rw [f2.hv]; exact o1, by rw [hl']; exact o2, by rw [hl']; exact o3⟩
  · rw [lastNode_key, h2] at hl; omega
end Go.Proofs.Qxb6630552a
