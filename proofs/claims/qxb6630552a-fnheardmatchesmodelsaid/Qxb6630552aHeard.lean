import Derived.Test.Qxb6630552aBuild2
namespace Go.Proofs.Qxb6630552a
set_option linter.unusedVariables false
set_option linter.unusedSimpArgs false
open Go.RowKit

/-- Two slices side by side: the addresses and the times of a report. -/
def PR (w : World) (a1 a2 : Option Addr) (hs : List HD) : Prop :=
  hs.length ≤ 9223372036854775807 ∧ ∃ b1 b2, (hs ≠ [] → a1 = some ⟨b1, 0, none⟩ ∧ a2 = some ⟨b2, 0, none⟩ ∧ b1 < w.heap.size ∧ b2 < w.heap.size) ∧ ∀ k, k < hs.length →
    w.cell? ⟨b1, k, none⟩ = some (.string (hdAt hs k).addr) ∧ w.cell? ⟨b2, k, none⟩ = some (.int .i64 (hdAt hs k).ago)
theorem PR.below {w w' : World} {a1 a2 : Option Addr} {hs : List HD} (h : PR w a1 a2 hs) (hb : Below w.heap.size w w') : PR w' a1 a2 hs := by
  obtain ⟨h1, b1, b2, h2, h3⟩ := h
  refine ⟨h1, b1, b2, fun e => ?_, fun k hk => ?_⟩
  · obtain ⟨q1, q2, q3, q4⟩ := h2 e
    exact ⟨q1, q2, Nat.lt_of_lt_of_le q3 hb.size, Nat.lt_of_lt_of_le q4 hb.size⟩
  · obtain ⟨q1, q2, q3, q4⟩ := h2 (by intro e; simp [e] at hk)
    rw [hb.cell (p := ⟨b1, k, none⟩) q3, hb.cell (p := ⟨b2, k, none⟩) q4]
    exact h3 k hk
def Split (hs : List HD) (e : Ending) (w' : World) : Prop :=
  ∃ a1 c1 a2 c2, e = .returned (.tuple #[.slice a1 hs.length c1, .slice a2 hs.length c2]) ∧ PR w' a1 a2 hs

theorem splitHeard_any (a : Option Addr) (cap : Nat) (ss : List HD) (w : World) (h : HR w a ss) (hn : ss.length ≤ 4096) :
    Calls Try.prog 24 #[.slice a ss.length cap] w fun e w' => Split ss e w' ∧ Below w.heap.size w w' := by
  have nl := nil24
  obtain ⟨hm, b, off, ha, hcell⟩ := h
  have hix := ix24 a ss.length cap b off (fun h => (ha (by intro e; simp [e] at h)).1)
  have hmk := make_any 22 9 _ 1 16 Try.underlying22 Try.info9 ss.length (by omega) (by omega)
  have hmk2 := make_any 51 2 _ 1 8 Try.underlying51 Try.info2 ss.length (by omega) (by omega)
  cases hna : a.isNone
  case true =>
    have he : ss = [] := by
      by_cases e : ss = []
      · exact e
      · rw [(ha e).1] at hna; cases hna
    subst he
    go_enter Try.func24, Try.ntmps24
    go_wp2
    go_ret2
    exact ⟨⟨none, 0, none, 0, rfl, ⟨by simp, 0, 0, fun h => (h rfl).elim, fun k hk => by simp at hk⟩⟩, Below.refl _ _⟩
  case false =>
    go_enter Try.func24, Try.ntmps24
    go_wp2
    go_loopw [17] (fun i wr => ∃ (k : Nat) (C D : Array Value), k ≤ ss.length ∧ i = .int .i64 k ∧ Hid (C.size = ss.length) ∧ Hid (D.size = ss.length) ∧ Hid (∀ j, j < k → C[j]? = some (.string (hdAt ss j).addr) ∧ D[j]? = some (.int .i64 (hdAt ss j).ago)) ∧ wr = (w.alloc (.cells C 9)).alloc (.cells D 2)) (fun i _ => ss.length - (intOf i).toNat)
    case atStart => exact ⟨0, _, _, Nat.zero_le _, rfl, size_madeCells _ _, size_madeCells _ _, fun j hj => by omega, rfl⟩
    case round =>
      obtain ⟨k, C, D, hk, rfl, hC, hD, hno, rfl⟩ := hrel
      by_cases hlt : k < ss.length
      · obtain ⟨hc, hc'⟩ := hcell k hlt
        have hb := (ha (by intro e; simp [e] at hlt)).2
        obtain ⟨v0, hv0⟩ : ∃ v, C[k]? = some v := ⟨_, Array.getElem?_eq_getElem (show k < C.size by have := hC.out; omega)⟩
        obtain ⟨v1, hv1⟩ : ∃ v, D[k]? = some v := ⟨_, Array.getElem?_eq_getElem (show k < D.size by have := hD.out; omega)⟩
        clear ha hcell
        go_wp2
        go_roundw
        case rel =>
          refine ⟨k + 1, _, _, by omega, by go_num, by simpa using hC, by simpa using hD, fun j hj => ?_, rfl⟩
          have h1 := hC.out
          have h2 := hD.out
          simp only [Array.getElem?_setIfInBounds]
          by_cases e : j = k
          · subst e; simp; omega
          · have := hno.out j (by omega)
            rw [if_neg (by omega), if_neg (by omega)]
            exact this
        case measure => simp [intOf]; omega
      · go_wp2
        go_ret2
        refine ⟨⟨_, _, _, _, rfl, ⟨hm, w.heap.size, w.heap.size + 1, fun _ => ⟨rfl, rfl, by simp; omega, by simp⟩, fun j hj => ?_⟩⟩, (below_alloc _ _).alloc (by simp) _⟩
        have := hno.out j (by omega)
        refine ⟨?_, ?_⟩
        · rw [World.cell?_alloc_past _ _ _ (by simp), World.cell?_alloc_new]; exact this.1
        · rw [World.cell?_alloc_at _ _ _ _ (by simp)]; exact this.2

/-! ### One entry turned -/
def setNE (L : List NE) (e1 : NE) : List NE := L.map fun x => if sEq e1.key x.key then e1 else x

theorem nodup_eq {L : List NE} {R : NE → NE → Prop} (hp : L.Pairwise (fun a b => sEq a.key b.key = false ∧ R a b)) {x y : NE} (hx : x ∈ L) (hy : y ∈ L) (hk : sEq x.key y.key = true) : x = y := by
  induction L with
  | nil => cases hx
  | cons p l ih =>
    rw [List.pairwise_cons] at hp
    rcases List.mem_cons.1 hx with h1 | h1 <;> rcases List.mem_cons.1 hy with h2 | h2
    · exact h1.trans h2.symm
    · rw [h1, (hp.1 y h2).1] at hk; cases hk
    · rw [h2, sEq_comm, (hp.1 x h1).1] at hk; cases hk
    · exact ih hp.2 h1 h2

theorem mem_setNE {L : List NE} {e1 x : NE} (h : x ∈ setNE L e1) : x = e1 ∨ (x ∈ L ∧ sEq e1.key x.key = false) := by
  unfold setNE at h
  rw [List.mem_map] at h
  obtain ⟨y, hy, rfl⟩ := h
  split
  · exact .inl rfl
  · rename_i hk; exact .inr ⟨hy, by simpa using hk⟩

theorem findNE_set (L : List NE) (e1 : NE) (a : ByteArray) : findNE (setNE L e1) a = (findNE L a).map fun x => if sEq e1.key x.key then e1 else x := by
  unfold findNE setNE
  induction L with
  | nil => rfl
  | cons p l ih =>
    have hkey : (if sEq e1.key p.key then e1 else p).key = p.key := by
      split
      · rename_i hk; exact (sEq_iff _ _).1 hk
      · rfl
    simp only [List.map_cons, List.find?_cons, hkey]
    by_cases ha : sEq a p.key = true
    · simp [ha]
    · have ha' : sEq a p.key = false := by simpa using ha
      simp only [ha']
      exact ih

theorem nkv_set {L : List NE} {R : NE → NE → Prop} (hp : L.Pairwise (fun a b => sEq a.key b.key = false ∧ R a b)) {e e1 : NE} (he : e ∈ L) (hk : e1.key = e.key) (hb : e1.blk = e.blk) : nkv (setNE L e1) = nkv L := by
  unfold nkv setNE
  rw [List.map_map]
  apply List.map_congr_left
  intro x hx
  simp only [Function.comp]
  split
  · rename_i hq
    rw [hk] at hq
    have := nodup_eq hp he hx hq
    rw [← this, hk, hb]
  · rfl

theorem StI.set {N : Nat} {w w' : World} {bs bm : Nat} {ft : Int} {ma : Option Addr} {mcap : Nat} {ms : List ByteArray} {L : List NE} (h : StI N w bs bm ft ma mcap ms L) {k : ByteArray} {e : NE} (hf : findNE L k = some e) (e1 : NE) (hk : e1.key = e.key) (hb : e1.blk = e.blk)
    (hblk : w'.heap[e.blk]? = some (.cells (nodeArr e1) 72)) (hh : HeardAt w' e1) (hoth : ∀ j, j < w.heap.size → j ≠ e.blk → e.hv ≠ some j → w'.heap[j]? = w.heap[j]?)
    (hhv : e1.hv = e.hv ∨ ∃ g, e1.hv = some g ∧ w.heap.size ≤ g) (hN : N ≤ w.heap.size) : StI N w' bs bm ft ma mcap ms (setNE L e1) := by
  have he := findNE_mem hf
  have hvm : ∀ x ∈ L, ∀ b, x.hv = some b → MapIs w b (hkv x.hl) := fun x hx b hv => by
    have := h.hd x hx
    unfold HeardAt at this
    rw [hv] at this
    exact this
  have hnot : ∀ b c t, w.heap[b]? = some (.cells c t) → e.hv ≠ some b := by
    intro b c t hc hv
    obtain ⟨es, clk, hm, -⟩ := hvm e he b hv
    rw [hc] at hm
    cases hm
  have hbme : bm ≠ e.blk := by
    intro hq
    obtain ⟨es, clk, hm, -⟩ := h.mp
    rw [hq, h.nd e he] at hm
    cases hm
  have hvlt : ∀ x ∈ L, ∀ b, x.hv = some b → b < w.heap.size := fun x hx b hv => (hvm x hx b hv).lt
  have hsep : ∀ x ∈ L, sEq e1.key x.key = false → e.blk ≠ x.blk ∧ (∀ b, e.hv = some b → x.hv ≠ some b) := by
    intro x hx hq
    rw [hk] at hq
    have hne : e ≠ x := by
      intro hq2; subst hq2; rw [(sEq_iff _ _).2 rfl] at hq; cases hq
    have : ∀ (l : List NE), l.Pairwise (fun x y => sEq x.key y.key = false ∧ x.blk ≠ y.blk ∧ ∀ b, x.hv = some b → y.hv ≠ some b) → e ∈ l → x ∈ l → e.blk ≠ x.blk ∧ (∀ b, e.hv = some b → x.hv ≠ some b) := by
      intro l
      induction l with
      | nil => intro _ h1; cases h1
      | cons p l ih =>
        intro hp h1 h2
        rw [List.pairwise_cons] at hp
        rcases List.mem_cons.1 h1 with h1 | h1 <;> rcases List.mem_cons.1 h2 with h2 | h2
        · exact (hne (h1.trans h2.symm)).elim
        · rw [h1]; exact (hp.1 x h2).2
        · rw [h2]
          have := (hp.1 e h1).2
          exact ⟨fun q => this.1 q.symm, fun b hb1 hb2 => this.2 b hb2 hb1⟩
        · exact ih hp.2 h1 h2
    exact this L h.pw he hx
  refine ⟨?_, ?_, fun x hx => ?_, fun x hx => ?_, h.lobs, h.lobm, fun x hx => ?_, ?_⟩
  · rw [hoth bs (lt_of_block h.st) (fun q => (h.lo e he).2.1 q.symm) (hnot _ _ _ h.st)]; exact h.st
  · rw [nkv_set h.pw he hk hb]
    exact h.mp.of_block (hoth bm h.mp.lt hbme (h.lo e he).2.2.1)
  · rcases mem_setNE hx with rfl | ⟨hx, hq⟩
    · rw [hb]; exact hblk
    · rw [hoth x.blk (lt_of_block (h.nd x hx)) (fun q => (hsep x hx hq).1 q.symm) (hnot _ _ _ (h.nd x hx))]; exact h.nd x hx
  · rcases mem_setNE hx with rfl | ⟨hx, hq⟩
    · exact hh
    · have := h.hd x hx
      unfold HeardAt at this ⊢
      cases hv : x.hv with
      | none => rw [hv] at this; exact this
      | some b =>
        rw [hv] at this
        refine MapIs.of_block this (hoth b (hvlt x hx b hv) ?_ (fun q => (hsep x hx hq).2 b q hv))
        intro q
        obtain ⟨es, clk, hm, -⟩ := this
        rw [q, h.nd e he] at hm
        cases hm
  · rcases mem_setNE hx with rfl | ⟨hx, hq⟩
    · obtain ⟨l1, l2, l3, l4⟩ := h.lo e he
      refine ⟨by rw [hb]; exact l1, by rw [hb]; exact l2, ?_, ?_⟩
      · rcases hhv with q | ⟨g, q, hg⟩
        · rw [q]; exact l3
        · rw [q]; intro q2; cases q2; have := h.mp.lt; omega
      · rcases hhv with q | ⟨g, q, hg⟩
        · rw [q]; exact l4
        · rw [q]; intro b q2; cases q2; omega
    · exact h.lo x hx
  · unfold setNE
    rw [List.pairwise_map]
    refine List.Pairwise.imp_of_mem ?_ h.pw
    intro a b ha hb' hab
    by_cases qa : sEq e1.key a.key = true <;> by_cases qb : sEq e1.key b.key = true
    · have := (sEq_iff _ _).1 qa
      rw [← this] at hab
      rw [qb] at hab
      cases hab.1
    · simp only [qa, qb, if_true, if_false]
      have qb' : sEq e1.key b.key = false := by simpa using qb
      obtain ⟨s1, s2⟩ := hsep b hb' qb'
      refine ⟨qb', by rw [hb]; exact s1, fun g hg => ?_⟩
      rcases hhv with q | ⟨g', q, hg'⟩
      · rw [q] at hg; exact s2 g hg
      · rw [q] at hg; cases hg; intro q2; have := hvlt b hb' _ q2; omega
    · simp only [qa, qb, if_true, if_false]
      have qa' : sEq e1.key a.key = false := by simpa using qa
      obtain ⟨s1, s2⟩ := hsep a ha qa'
      refine ⟨by rw [sEq_comm]; exact qa', by rw [hb]; exact fun q => s1 q.symm, fun g hg hg2 => ?_⟩
      rcases hhv with q | ⟨g', q, hg'⟩
      · rw [q] at hg2; exact s2 g hg2 hg
      · rw [q] at hg2; cases hg2; have := hvlt a ha _ hg; omega
    · simp only [qa, qb, if_false]; exact hab

def three (w : World) (b o : Nat) (t : Int) : World :=
  ((w.setCell ⟨b, o, none⟩ (.int .u64 (t % 1000000000))).setCell ⟨b, o + 1, none⟩ (.int .i64 (t / 1000000000))).setCell ⟨b, o + 2, none⟩ (.pointer none)
theorem three_same {w : World} {b o : Nat} {t : Int} {c : Array Value} {ty : TypeId} (h : w.heap[b]? = some (.cells c ty)) :
    (three w b o t).heap[b]? = some (.cells (((c.setIfInBounds o (.int .u64 (t % 1000000000))).setIfInBounds (o + 1) (.int .i64 (t / 1000000000))).setIfInBounds (o + 2) (.pointer none)) ty) :=
  heap_setCell_same _ _ _ _ _ _ _ (heap_setCell_same _ _ _ _ _ _ _ (heap_setCell_same _ _ _ _ _ _ _ h))
theorem three_other (w : World) (b o : Nat) (t : Int) (j : Nat) (h : j ≠ b) : (three w b o t).heap[j]? = w.heap[j]? := by
  unfold three
  rw [Below.heap_setCell _ _ _ _ h, Below.heap_setCell _ _ _ _ h, Below.heap_setCell _ _ _ _ h]
theorem three_size (w : World) (b o : Nat) (t : Int) : (three w b o t).heap.size = w.heap.size := by
  simp only [three, Deep.nblk_setCell]
theorem three_map {w : World} {b o : Nat} {t : Int} {g : Nat} {l : KV} (h : MapIs w g l) : MapIs (three w b o t) g l := ((h.setCell _ _).setCell _ _).setCell _ _
theorem three_below {B : Nat} {w0 w : World} (h : Below B w0 w) (b o : Nat) (t : Int) (hb : B ≤ b) : Below B w0 (three w b o t) := ((h.setCell hb _).setCell hb _).setCell hb _

theorem StI.setSeen {N : Nat} {w : World} {bs bm : Nat} {ft : Int} {ma : Option Addr} {mcap : Nat} {ms : List ByteArray} {L : List NE} (h : StI N w bs bm ft ma mcap ms L) {k : ByteArray} {e : NE} (hf : findNE L k = some e) (hN : N ≤ w.heap.size) (t : Int) : StI N (three w e.blk 4 t) bs bm ft ma mcap ms (setNE L { e with seen := t }) := by
  have he := findNE_mem hf
  refine h.set hf _ rfl rfl ?_ ?_ (fun j _ hj _ => three_other _ _ _ _ _ hj) (.inl rfl) hN
  · have := three_same (w := w) (t := t) (o := 4) (h.nd e he)
    exact this
  · have := h.hd e he
    unfold HeardAt at this ⊢
    cases hv : e.hv with
    | none => rw [hv] at this; exact this
    | some b => rw [hv] at this; exact three_map this

theorem StI.setRep {N : Nat} {w : World} {bs bm : Nat} {ft : Int} {ma : Option Addr} {mcap : Nat} {ms : List ByteArray} {L : List NE} (h : StI N w bs bm ft ma mcap ms L) {k : ByteArray} {e : NE} (hf : findNE L k = some e) (hN : N ≤ w.heap.size) (t : Int) : StI N (three w e.blk 8 t) bs bm ft ma mcap ms (setNE L { e with rep := t }) := by
  have he := findNE_mem hf
  refine h.set hf _ rfl rfl ?_ ?_ (fun j _ hj _ => three_other _ _ _ _ _ hj) (.inl rfl) hN
  · have := three_same (w := w) (t := t) (o := 8) (h.nd e he)
    exact this
  · have := h.hd e he
    unfold HeardAt at this ⊢
    cases hv : e.hv with
    | none => rw [hv] at this; exact this
    | some b => rw [hv] at this; exact three_map this

theorem StI.setReping {N : Nat} {w : World} {bs bm : Nat} {ft : Int} {ma : Option Addr} {mcap : Nat} {ms : List ByteArray} {L : List NE} (h : StI N w bs bm ft ma mcap ms L) {k : ByteArray} {e : NE} (hf : findNE L k = some e) (hN : N ≤ w.heap.size) (t : Int) : StI N (three w e.blk 11 t) bs bm ft ma mcap ms (setNE L { e with reping := t }) := by
  have he := findNE_mem hf
  refine h.set hf _ rfl rfl ?_ ?_ (fun j _ hj _ => three_other _ _ _ _ _ hj) (.inl rfl) hN
  · have := three_same (w := w) (t := t) (o := 11) (h.nd e he)
    exact this
  · have := h.hd e he
    unfold HeardAt at this ⊢
    cases hv : e.hv with
    | none => rw [hv] at this; exact this
    | some b => rw [hv] at this; exact three_map this

theorem StI.setHv {N : Nat} {w : World} {bs bm : Nat} {ft : Int} {ma : Option Addr} {mcap : Nat} {ms : List ByteArray} {L : List NE} (h : StI N w bs bm ft ma mcap ms L) {k : ByteArray} {e : NE} (hf : findNE L k = some e) (hN : N ≤ w.heap.size) : StI N ((w.alloc (.map #[] 0)).setCell ⟨e.blk, 7, none⟩ (.map (some w.heap.size))) bs bm ft ma mcap ms (setNE L { e with hv := some w.heap.size, hl := [] }) := by
  have he := findNE_mem hf
  have hlt := lt_of_block (h.nd e he)
  refine h.set hf _ rfl rfl ?_ ?_ (fun j hj1 hj2 _ => ?_) (.inr ⟨_, rfl, Nat.le_refl _⟩) hN
  · have h1 : (w.alloc (.map #[] 0)).heap[e.blk]? = some (.cells (nodeArr e) 72) := by rw [Deep.blk_alloc_lt _ _ _ hlt]; exact h.nd e he
    have := heap_setCell_same _ _ 7 (.map (some w.heap.size)) _ _ _ h1
    exact this
  · exact (MapIs.made w).setCell _ _
  · rw [Below.heap_setCell _ _ _ _ hj2, Deep.blk_alloc_lt _ _ _ hj1]

theorem StI.setClear {N : Nat} {w : World} {bs bm : Nat} {ft : Int} {ma : Option Addr} {mcap : Nat} {ms : List ByteArray} {L : List NE} (h : StI N w bs bm ft ma mcap ms L) {k : ByteArray} {e : NE} (hf : findNE L k = some e) (hN : N ≤ w.heap.size) {g : Nat} (hv : e.hv = some g) : StI N (clearMap w g) bs bm ft ma mcap ms (setNE L { e with hl := [] }) := by
  have he := findNE_mem hf
  have hm : MapIs w g (hkv e.hl) := by
    have := h.hd e he
    unfold HeardAt at this
    rw [hv] at this
    exact this
  have hne : ∀ b c t, w.heap[b]? = some (.cells c t) → b ≠ g := by
    intro b c t hc q
    obtain ⟨es, clk, hx, -⟩ := hm
    rw [← q, hc] at hx
    cases hx
  refine h.set hf _ rfl rfl ?_ ?_ (fun j hj1 hj2 hj3 => heap_clearMap_other _ _ _ (fun q => hj3 (by rw [hv, q]))) (.inl rfl) hN
  · rw [heap_clearMap_other _ _ _ (hne _ _ _ (h.nd e he))]; exact h.nd e he
  · unfold HeardAt
    rw [show ({ e with hl := [] } : NE).hv = some g from hv]
    exact (run_clearMap (P := Try.prog) (t := 70) (e := 63) 0 Try.underlying70 hm).2

theorem StI.setPut {N : Nat} {w : World} {bs bm : Nat} {ft : Int} {ma : Option Addr} {mcap : Nat} {ms : List ByteArray} {L : List NE} (h : StI N w bs bm ft ma mcap ms L) {k : ByteArray} {e : NE} (hf : findNE L k = some e) (hN : N ≤ w.heap.size) {g : Nat} (hv : e.hv = some g) (k' : ByteArray) (t : Int) : StI N (putMap w g k' (tm t)) bs bm ft ma mcap ms (setNE L { e with hl := putH e.hl k' t }) := by
  have he := findNE_mem hf
  have hm : MapIs w g (hkv e.hl) := by
    have := h.hd e he
    unfold HeardAt at this
    rw [hv] at this
    exact this
  have hne : ∀ b c t, w.heap[b]? = some (.cells c t) → b ≠ g := by
    intro b c t hc q
    obtain ⟨es, clk, hx, -⟩ := hm
    rw [← q, hc] at hx
    cases hx
  refine h.set hf _ rfl rfl ?_ ?_ (fun j hj1 hj2 hj3 => heap_putMap_other _ _ _ _ _ (fun q => hj3 (by rw [hv, q]))) (.inl rfl) hN
  · rw [heap_putMap_other _ _ _ _ _ (hne _ _ _ (h.nd e he))]; exact h.nd e he
  · unfold HeardAt
    rw [show ({ e with hl := putH e.hl k' t } : NE).hv = some g from hv]
    simp only []
    rw [hkv_putH]
    exact (run_putMap (P := Try.prog) (t := 70) (e := 63) Try.underlying70 Try.underlying9 k' (tm t) hm).2
end Go.Proofs.Qxb6630552a
