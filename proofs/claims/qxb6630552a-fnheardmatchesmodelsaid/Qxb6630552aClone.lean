import Derived.Test.Qxb6630552aFit
import Derived.Deep.OwnRows
namespace Go.Proofs.Qxb6630552a
set_option linter.unusedVariables false
set_option linter.unusedSimpArgs false
open Go.RowKit

theorem Try.info9 : (Try.prog.info? 9).map (fun i => (i.zero, i.size, i.bytes)) = some (some (.string ByteArray.empty), 1, 16) := by kernel_rfl
theorem Try.info2 : (Try.prog.info? 2).map (fun i => (i.zero, i.size, i.bytes)) = some (some (.int .i64 0), 1, 8) := by kernel_rfl

theorem nil22 (w : World) (a : Option Addr) (n c : Nat) : (binOp .eql 22 (.slice a n c) (.slice none 0 0)).run Try.prog w = .ok (.bool a.isNone) w := Lib.run_eql_slice_nil w _ _ a n c 0 0 Try.underlying22
theorem nil23 (w : World) (a : Option Addr) (n c : Nat) : (binOp .eql 23 (.slice a n c) (.slice none 0 0)).run Try.prog w = .ok (.bool a.isNone) w := Lib.run_eql_slice_nil w _ _ a n c 0 0 Try.underlying23
theorem nil24 (w : World) (a : Option Addr) (n c : Nat) : (binOp .eql 24 (.slice a n c) (.slice none 0 0)).run Try.prog w = .ok (.bool a.isNone) w := Lib.run_eql_slice_nil w _ _ a n c 0 0 Try.underlying24

def SCl (w : World) (a : Option Addr) (ss : List ByteArray) (e : Ending) (w' : World) : Prop :=
  ∃ a' c', e = .returned (.slice a' ss.length c') ∧ SR w' a' ss ∧ a'.isNone = a.isNone ∧ ∀ x, a' = some x → w.heap.size ≤ x.block

theorem cloneStrings_any (a : Option Addr) (cap : Nat) (ss : List ByteArray) (w : World) (h : SR w a ss) (hn : ss.length ≤ 4096) :
    Calls Try.prog 8 #[.slice a ss.length cap] w fun e w' => SCl w a ss e w' ∧ Below w.heap.size w w' := by
  have nl := nil22
  have h' := h
  obtain ⟨hm, b, off, ha, hcell⟩ := h
  have hix := ix22 a ss.length cap b off (fun h => (ha (by intro e; simp [e] at h)).1)
  have hmk := run_make_row' (P := Try.prog) 22 9 (.string ByteArray.empty) 16 Try.underlying22 Try.info9 rfl .i64 .i64 ss.length (by omega) (by omega)
  cases hna : a.isNone
  case true =>
    have he : ss = [] := by
      by_cases e : ss = []
      · exact e
      · rw [(ha e).1] at hna; cases hna
    subst he
    go_enter Try.func8, Try.ntmps8
    go_wp2
    go_ret
    exact ⟨⟨none, 0, rfl, ⟨by simp, 0, 0, fun h => (h rfl).elim, fun k hk => by simp at hk⟩, by rw [hna]; rfl, fun x hx => by cases hx⟩, Below.refl _ _⟩
  case false =>
    go_enter Try.func8, Try.ntmps8
    go_wp2
    go_loopw [12] (fun i wr => ∃ (k : Nat) (C : Array Value), k ≤ ss.length ∧ i = .int .i64 k ∧ C.size = ss.length ∧ Hid (∀ j, j < k → C[j]? = some (.string (strAt ss j))) ∧ wr = w.alloc (.cells C 9)) (fun i _ => ss.length - (intOf i).toNat)
    case atStart => exact ⟨0, _, Nat.zero_le _, rfl, size_madeCells _ _, fun j hj => by omega, rfl⟩
    case round =>
      obtain ⟨k, C, hk, rfl, hC, hno, rfl⟩ := hrel
      by_cases hlt : k < ss.length
      · have hc := hcell k hlt
        have hb := (ha (by intro e; simp [e] at hlt)).2
        have hCk : k < C.size := by omega
        clear ha hcell h'
        go_wp2
        go_roundw
        case rel =>
          refine ⟨k + 1, _, by omega, by go_num, by simp [hC], fun j hj => ?_, rfl⟩
          rw [Array.getElem?_setIfInBounds]
          by_cases e : j = k
          · rw [if_pos e.symm, if_pos (by omega), e]
          · rw [if_neg (Ne.symm e)]; exact hno.out j (by omega)
        case measure => simp [intOf]; omega
      · go_wp2
        go_ret
        refine ⟨⟨_, _, rfl, ⟨hm, w.heap.size, 0, fun _ => ⟨rfl, by simp⟩, fun j hj => ?_⟩, hna.symm, fun x hx => by cases hx; exact Nat.le_refl _⟩, below_alloc _ _⟩
        rw [World.cell?_alloc_new, Nat.zero_add]
        exact hno.out j (by omega)

theorem make_any (t e : TypeId) (z : Value) (sz bytes : Nat) (ht : Try.prog.underlying t = some (.slice e)) (hinfo : (Try.prog.info? e).map (fun i => (i.zero, i.size, i.bytes)) = some (some z, sz, bytes))
    (n : Nat) (hb : bytes * n ≤ 281474976710656) (hn : n ≤ 9223372036854775807) (w : World) : (Instr.makeSlice t (.int .i64 (n : Int)) (.int .i64 (n : Int))).run Try.prog w =
    .ok (.slice (some ⟨w.heap.size, 0, none⟩) n n) (w.alloc (.cells (madeCells z.cells (n * sz)) e)) := by
  obtain ⟨i, hi, hzz⟩ := Option.map_eq_some_iff.1 hinfo
  simp only [Prod.mk.injEq] at hzz
  obtain ⟨hz, hs, hbb⟩ := hzz
  have hb' : (i.bytes : Int) * (n : Int) ≤ 281474976710656 := by
    have h : ((i.bytes * n : Nat) : Int) ≤ 281474976710656 := by rw [hbb]; omega
    rwa [Int.natCast_mul] at h
  have hr := run_make (P := Try.prog) w t e i z ht hi hz .i64 .i64 n n (by omega) (Int.le_refl _) hb' (by omega)
  simp only [Int.toNat_natCast, hs] at hr
  exact hr
theorem Try.info44 : (Try.prog.info? 44).map (fun i => (i.zero, i.size, i.bytes)) = some (some (.agg #[.string ByteArray.empty, .int .i64 0]), 2, 24) := by kernel_rfl
theorem Try.info40 : (Try.prog.info? 40).map (fun i => (i.zero, i.size, i.bytes)) = some (some (.agg #[.string ByteArray.empty, .int .i64 0, .int .i64 0, .int .i64 0, .bool false, .slice none 0 0]), 6, 72) := by kernel_rfl
theorem Try.info81 : (Try.prog.info? 81).map (fun i => (i.zero, i.size, i.bytes)) = some (some (.agg #[.string ByteArray.empty, .int .i64 0]), 2, 24) := by kernel_rfl

def HCl (hs : List HD) (e : Ending) (w' : World) : Prop := ∃ a' c', e = .returned (.slice a' hs.length c') ∧ HR w' a' hs

theorem cloneHeard_any (a : Option Addr) (cap : Nat) (ss : List HD) (w : World) (h : HR w a ss) (hn : ss.length ≤ 4096) :
    Calls Try.prog 10 #[.slice a ss.length cap] w fun e w' => HCl ss e w' ∧ Below w.heap.size w w' := by
  have nl := nil24
  have h' := h
  obtain ⟨hm, b, off, ha, hcell⟩ := h
  have hix := ix24 a ss.length cap b off (fun h => (ha (by intro e; simp [e] at h)).1)
  have hmk := make_any 24 44 _ 2 24 Try.underlying24 Try.info44 ss.length (by omega) (by omega)
  cases hna : a.isNone
  case true =>
    have he : ss = [] := by
      by_cases e : ss = []
      · exact e
      · rw [(ha e).1] at hna; cases hna
    subst he
    go_enter Try.func10, Try.ntmps10
    go_wp2
    go_ret
    exact ⟨⟨none, 0, rfl, ⟨by simp, 0, 0, fun h => (h rfl).elim, fun k hk => by simp at hk⟩⟩, Below.refl _ _⟩
  case false =>
    go_enter Try.func10, Try.ntmps10
    go_wp2
    go_loopw [12] (fun i wr => ∃ (k : Nat) (C : Array Value), k ≤ ss.length ∧ i = .int .i64 k ∧ C.size = ss.length * 2 ∧ Hid (∀ j, j < k → C[j * 2]? = some (.string (hdAt ss j).addr) ∧ C[j * 2 + 1]? = some (.int .i64 (hdAt ss j).ago)) ∧ wr = w.alloc (.cells C 44)) (fun i _ => ss.length - (intOf i).toNat)
    case atStart => exact ⟨0, _, Nat.zero_le _, rfl, size_madeCells _ _, fun j hj => by omega, rfl⟩
    case round =>
      obtain ⟨k, C, hk, rfl, hC, hno, rfl⟩ := hrel
      by_cases hlt : k < ss.length
      · obtain ⟨hc, hc'⟩ := hcell k hlt
        have hb := (ha (by intro e; simp [e] at hlt)).2
        obtain ⟨v0, hv0⟩ : ∃ v, C[k * 2]? = some v := ⟨_, Array.getElem?_eq_getElem (show k * 2 < C.size by omega)⟩
        obtain ⟨v1, hv1⟩ : ∃ v, C[k * 2 + 1]? = some v := ⟨_, Array.getElem?_eq_getElem (show k * 2 + 1 < C.size by omega)⟩
        clear ha hcell h'
        have HC : Hid (C.size = ss.length * 2) := hC
        clear hC
        go_wp2
        have hC := HC.out
        go_roundw
        case rel =>
          refine ⟨k + 1, _, by omega, by go_num, by simp [hC], fun j hj => ?_, rfl⟩
          simp only [Array.getElem?_setIfInBounds]
          by_cases e : j = k
          · subst e; simp; omega
          · have := hno.out j (by omega)
            rw [if_neg (by omega), if_neg (by omega), if_neg (by omega), if_neg (by omega)]
            exact this
        case measure => simp [intOf]; omega
      · go_wp2
        go_ret
        refine ⟨⟨_, _, rfl, ⟨hm, w.heap.size, 0, fun _ => ⟨rfl, by simp⟩, fun j hj => ?_⟩⟩, below_alloc _ _⟩
        rw [World.cell?_alloc_new, World.cell?_alloc_new, Nat.zero_add]
        exact hno.out j (by omega)

theorem SR.setCell {w : World} {a : Option Addr} {ss : List ByteArray} (h : SR w a ss) (p : Addr) (v : Value) (hp : ∀ x, a = some x → x.block ≠ p.block) : SR (w.setCell p v) a ss := by
  obtain ⟨h1, b, off, h2, h3⟩ := h
  refine ⟨h1, b, off, fun e => ⟨(h2 e).1, by rw [Deep.nblk_setCell]; exact (h2 e).2⟩, fun k hk => ?_⟩
  have hne := hp _ (h2 (by intro e; simp [e] at hk)).1
  rw [World.cell?_setCell_other _ _ _ _ (by intro e; exact hne (congrArg Addr.block e).symm)]
  exact h3 k hk

def six (w : World) (g o : Nat) (x0 x1 x2 x3 x4 x5 : Value) : World :=
  (((((w.setCell ⟨g, o, none⟩ x0).setCell ⟨g, o + 1, none⟩ x1).setCell ⟨g, o + 2, none⟩ x2).setCell ⟨g, o + 3, none⟩ x3).setCell ⟨g, o + 4, none⟩ x4).setCell ⟨g, o + 5, none⟩ x5
theorem six_size (w : World) (g o : Nat) (x0 x1 x2 x3 x4 x5 : Value) : (six w g o x0 x1 x2 x3 x4 x5).heap.size = w.heap.size := by
  simp only [six, Deep.nblk_setCell]
theorem six_other (w : World) (g o : Nat) (x0 x1 x2 x3 x4 x5 : Value) (b i : Nat) (h : b ≠ g ∨ i < o ∨ o + 5 < i) : (six w g o x0 x1 x2 x3 x4 x5).cell? ⟨b, i, none⟩ = w.cell? ⟨b, i, none⟩ := by
  unfold six
  repeat rw [World.cell?_setCell_other _ _ _ _ (by intro e; cases e; omega)]
theorem six_at (w : World) (g o : Nat) (x0 x1 x2 x3 x4 x5 : Value) (hr : ∀ i, i < 6 → ∃ v, w.cell? ⟨g, o + i, none⟩ = some v) :
    (six w g o x0 x1 x2 x3 x4 x5).cell? ⟨g, o, none⟩ = some x0 ∧ (six w g o x0 x1 x2 x3 x4 x5).cell? ⟨g, o + 1, none⟩ = some x1 ∧ (six w g o x0 x1 x2 x3 x4 x5).cell? ⟨g, o + 2, none⟩ = some x2 ∧
    (six w g o x0 x1 x2 x3 x4 x5).cell? ⟨g, o + 3, none⟩ = some x3 ∧ (six w g o x0 x1 x2 x3 x4 x5).cell? ⟨g, o + 4, none⟩ = some x4 ∧ (six w g o x0 x1 x2 x3 x4 x5).cell? ⟨g, o + 5, none⟩ = some x5 := by
  obtain ⟨v0, r0⟩ := hr 0 (by omega)
  obtain ⟨v1, r1⟩ := hr 1 (by omega)
  obtain ⟨v2, r2⟩ := hr 2 (by omega)
  obtain ⟨v3, r3⟩ := hr 3 (by omega)
  obtain ⟨v4, r4⟩ := hr 4 (by omega)
  obtain ⟨v5, r5⟩ := hr 5 (by omega)
  simp only [Nat.add_zero] at r0
  simp [six, World.cell?_setCell_other, World.cell?_setCell_same', r0, r1, r2, r3, r4, r5]
theorem six_frozen (w : World) (g o : Nat) (x0 x1 x2 x3 x4 x5 : Value) (p : Addr) : (six w g o x0 x1 x2 x3 x4 x5).frozen? p = w.frozen? p := by
  simp only [six, World.frozen?_setCell]
theorem six_below {B : Nat} {w0 w : World} (h : Below B w0 w) (g o : Nat) (hg : B ≤ g) (x0 x1 x2 x3 x4 x5 : Value) : Below B w0 (six w g o x0 x1 x2 x3 x4 x5) :=
  (((((h.setCell hg _).setCell hg _).setCell hg _).setCell hg _).setCell hg _).setCell hg _
theorem SR.six {w : World} {a : Option Addr} {ss : List ByteArray} (h : SR w a ss) (g o : Nat) (x0 x1 x2 x3 x4 x5 : Value) (hp : ∀ x, a = some x → x.block ≠ g) : SR (six w g o x0 x1 x2 x3 x4 x5) a ss :=
  (((((h.setCell _ _ hp).setCell _ _ hp).setCell _ _ hp).setCell _ _ hp).setCell _ _ hp).setCell _ _ hp

/-- The same node, but for where its old keys lie. -/
def SameND (x y : ND) : Prop := y.addr = x.addr ∧ y.seen = x.seen ∧ y.rep = x.rep ∧ y.reping = x.reping ∧ y.dis = x.dis ∧ y.old = x.old ∧ y.oa.isNone = x.oa.isNone

def NCells (w : World) (g : Nat) (L : List ND) : Prop := ∀ k, k < L.length →
    w.cell? ⟨g, k * 6, none⟩ = some (.string (ndAt L k).addr) ∧ w.cell? ⟨g, k * 6 + 1, none⟩ = some (.int .i64 (ndAt L k).seen) ∧
    w.cell? ⟨g, k * 6 + 2, none⟩ = some (.int .i64 (ndAt L k).rep) ∧ w.cell? ⟨g, k * 6 + 3, none⟩ = some (.int .i64 (ndAt L k).reping) ∧
    w.cell? ⟨g, k * 6 + 4, none⟩ = some (.bool (ndAt L k).dis) ∧ w.cell? ⟨g, k * 6 + 5, none⟩ = some (.slice (ndAt L k).oa (ndAt L k).old.length (ndAt L k).ocap) ∧
    SR w (ndAt L k).oa (ndAt L k).old ∧ ∀ x, (ndAt L k).oa = some x → g < x.block
def Room6 (w : World) (g n : Nat) : Prop := ∀ i, i < n → (∃ v, w.cell? ⟨g, i, none⟩ = some v) ∧ w.frozen? ⟨g, i, none⟩ = false

def NCl (ns : List ND) (e : Ending) (w' : World) : Prop := ∃ a' c' L, e = .returned (.slice a' ns.length c') ∧ NR w' a' L ∧ L.length = ns.length ∧ ∀ j, j < ns.length → SameND (ndAt ns j) (ndAt L j)

theorem ndAt_snoc_lt (L : List ND) (x : ND) (j : Nat) (h : j < L.length) : ndAt (L ++ [x]) j = ndAt L j := by
  simp [ndAt, List.getElem?_append_left h]
theorem ndAt_snoc_eq (L : List ND) (x : ND) : ndAt (L ++ [x]) L.length = x := by
  simp [ndAt]

set_option maxHeartbeats 1000000 in
theorem cloneNodes_any (a : Option Addr) (cap : Nat) (ns : List ND) (w : World) (h : NR w a ns) (hn : ns.length ≤ 4096) (hold : ∀ j, j < ns.length → (ndAt ns j).old.length ≤ 4096) :
    Calls Try.prog 9 #[.slice a ns.length cap] w fun e w' => NCl ns e w' ∧ Below w.heap.size w w' := by
  have nl := nil23
  obtain ⟨hm, b, off, ha, hcell⟩ := h
  have hix := ix23 a ns.length cap b off (fun h => (ha (by intro e; simp [e] at h)).1)
  have hmk := make_any 23 40 _ 6 72 Try.underlying23 Try.info40 ns.length (by omega) (by omega)
  cases hna : a.isNone
  case true =>
    have he : ns = [] := by
      by_cases e : ns = []
      · exact e
      · rw [(ha e).1] at hna; cases hna
    subst he
    clear hold
    go_enter Try.func9, Try.ntmps9
    go_wp2
    go_ret
    exact ⟨⟨none, 0, [], rfl, ⟨by simp, 0, 0, fun h => (h rfl).elim, fun k hk => by simp at hk⟩, rfl, fun j hj => by simp at hj⟩, Below.refl _ _⟩
  case false =>
    have Hold : Hid _ := hold
    clear hold
    go_enter Try.func9, Try.ntmps9
    go_wp2
    go_loopw [12] (fun i wr => ∃ (k : Nat) (L : List ND), k ≤ ns.length ∧ i = .int .i64 k ∧ Hid (L.length = k) ∧ Hid (∀ j, j < k → SameND (ndAt ns j) (ndAt L j)) ∧ NCells wr w.heap.size L ∧ Room6 wr w.heap.size (ns.length * 6) ∧ Below w.heap.size w wr ∧ w.heap.size < wr.heap.size) (fun i _ => ns.length - (intOf i).toNat)
    case atStart =>
      refine ⟨0, [], Nat.zero_le _, rfl, rfl, fun j hj => by omega, fun k hk => by simp at hk, fun i hi => ?_, below_alloc _ _, by simp⟩
      refine ⟨⟨_, by rw [World.cell?_alloc_new]; exact Array.getElem?_eq_getElem (by rw [size_madeCells]; exact hi)⟩, by rw [frozen?_alloc_cells]; simp [World.frozen?]⟩
    case round =>
      obtain ⟨k, L, hk, rfl, hL, hno, hcl, hroom, hbel, hsz⟩ := hrel
      by_cases hlt : k < ns.length
      · obtain ⟨c0, c1, c2, c3, c4, c5, c6⟩ := hcell k hlt
        have hb := (ha (by intro e; simp [e] at hlt)).2
        clear ha hcell
        rw [← hbel.cell (p := ⟨b, off + k * 6, none⟩) hb] at c0
        rw [← hbel.cell (p := ⟨b, off + k * 6 + 1, none⟩) hb] at c1
        rw [← hbel.cell (p := ⟨b, off + k * 6 + 2, none⟩) hb] at c2
        rw [← hbel.cell (p := ⟨b, off + k * 6 + 3, none⟩) hb] at c3
        rw [← hbel.cell (p := ⟨b, off + k * 6 + 4, none⟩) hb] at c4
        rw [← hbel.cell (p := ⟨b, off + k * 6 + 5, none⟩) hb] at c5
        obtain ⟨⟨v0, r0⟩, f0⟩ := hroom (k * 6) (by omega)
        obtain ⟨⟨v1, r1⟩, f1⟩ := hroom (k * 6 + 1) (by omega)
        obtain ⟨⟨v2, r2⟩, f2⟩ := hroom (k * 6 + 2) (by omega)
        obtain ⟨⟨v3, r3⟩, f3⟩ := hroom (k * 6 + 3) (by omega)
        obtain ⟨⟨v4, r4⟩, f4⟩ := hroom (k * 6 + 4) (by omega)
        obtain ⟨⟨v5, r5⟩, f5⟩ := hroom (k * 6 + 5) (by omega)
        have HR6 : Hid _ := hroom
        have HCL : Hid _ := hcl
        clear hroom hcl
        have hbn : b ≠ w.heap.size := by omega
        go_wp2_with fail
        have hW1 := six_below hbel w.heap.size (k * 6) (Nat.le_refl _) (.string (ndAt ns k).addr) (.int .i64 (ndAt ns k).seen) (.int .i64 (ndAt ns k).rep) (.int .i64 (ndAt ns k).reping) (.bool (ndAt ns k).dis) (.slice (ndAt ns k).oa (ndAt ns k).old.length (ndAt ns k).ocap)
        refine (cloneStrings_any (ndAt ns k).oa (ndAt ns k).ocap (ndAt ns k).old _ (c6.below hW1) (Hold.out k hlt)).mono ?_
        rintro e w1 ⟨⟨a', c', rfl, hsr', hnil, hfresh⟩, hb1⟩
        have hr6 : ∀ i, i < 6 → ∃ v, wr.cell? ⟨w.heap.size, k * 6 + i, none⟩ = some v := fun i hi => (HR6.out (k * 6 + i) (by omega)).1
        have hat := six_at wr w.heap.size (k * 6) (.string (ndAt ns k).addr) (.int .i64 (ndAt ns k).seen) (.int .i64 (ndAt ns k).rep) (.int .i64 (ndAt ns k).reping) (.bool (ndAt ns k).dis) (.slice (ndAt ns k).oa (ndAt ns k).old.length (ndAt ns k).ocap) hr6
        have hoth := six_other wr w.heap.size (k * 6) (.string (ndAt ns k).addr) (.int .i64 (ndAt ns k).seen) (.int .i64 (ndAt ns k).rep) (.int .i64 (ndAt ns k).reping) (.bool (ndAt ns k).dis) (.slice (ndAt ns k).oa (ndAt ns k).old.length (ndAt ns k).ocap) w.heap.size
        have hfz := six_frozen wr w.heap.size (k * 6) (.string (ndAt ns k).addr) (.int .i64 (ndAt ns k).seen) (.int .i64 (ndAt ns k).rep) (.int .i64 (ndAt ns k).reping) (.bool (ndAt ns k).dis) (.slice (ndAt ns k).oa (ndAt ns k).old.length (ndAt ns k).ocap)
        have hss := six_size wr w.heap.size (k * 6) (.string (ndAt ns k).addr) (.int .i64 (ndAt ns k).seen) (.int .i64 (ndAt ns k).rep) (.int .i64 (ndAt ns k).reping) (.bool (ndAt ns k).dis) (.slice (ndAt ns k).oa (ndAt ns k).old.length (ndAt ns k).ocap)
        have hsr6 := fun a ss (h : SR wr a ss) => h.six w.heap.size (k * 6) (.string (ndAt ns k).addr) (.int .i64 (ndAt ns k).seen) (.int .i64 (ndAt ns k).rep) (.int .i64 (ndAt ns k).reping) (.bool (ndAt ns k).dis) (.slice (ndAt ns k).oa (ndAt ns k).old.length (ndAt ns k).ocap)
        change Below (six wr w.heap.size (k * 6) (.string (ndAt ns k).addr) (.int .i64 (ndAt ns k).seen) (.int .i64 (ndAt ns k).rep) (.int .i64 (ndAt ns k).reping) (.bool (ndAt ns k).dis) (.slice (ndAt ns k).oa (ndAt ns k).old.length (ndAt ns k).ocap)).heap.size (six wr w.heap.size (k * 6) (.string (ndAt ns k).addr) (.int .i64 (ndAt ns k).seen) (.int .i64 (ndAt ns k).rep) (.int .i64 (ndAt ns k).reping) (.bool (ndAt ns k).dis) (.slice (ndAt ns k).oa (ndAt ns k).old.length (ndAt ns k).ocap)) w1 at hb1
        change ∀ x, a' = some x → (six wr w.heap.size (k * 6) (.string (ndAt ns k).addr) (.int .i64 (ndAt ns k).seen) (.int .i64 (ndAt ns k).rep) (.int .i64 (ndAt ns k).reping) (.bool (ndAt ns k).dis) (.slice (ndAt ns k).oa (ndAt ns k).old.length (ndAt ns k).ocap)).heap.size ≤ x.block at hfresh
        generalize six wr w.heap.size (k * 6) (.string (ndAt ns k).addr) (.int .i64 (ndAt ns k).seen) (.int .i64 (ndAt ns k).rep) (.int .i64 (ndAt ns k).reping) (.bool (ndAt ns k).dis) (.slice (ndAt ns k).oa (ndAt ns k).old.length (ndAt ns k).ocap) = W1 at *
        clear c0 c1 c2 c3 c4 c5 r0 r1 r2 r3 r4 r5 f0 f1 f2 f3 f4
        have hg1 : w.heap.size < W1.heap.size := by omega
        have hc5 : ∃ v, w1.cell? ⟨w.heap.size, k * 6 + 5, none⟩ = some v := ⟨_, by rw [hb1.cell (p := ⟨w.heap.size, k * 6 + 5, none⟩) hg1]; exact hat.2.2.2.2.2⟩
        have hf5 : w1.frozen? ⟨w.heap.size, k * 6 + 5, none⟩ = false := by rw [hb1.frozen (p := ⟨w.heap.size, k * 6 + 5, none⟩) hg1, hfz]; exact f5
        obtain ⟨v5', hc5⟩ := hc5
        have Hoth : Hid _ := hoth
        have Hat : Hid _ := hat
        have Hfz : Hid _ := hfz
        have Hss : Hid _ := hss
        have Hsr6 : Hid _ := hsr6
        have Hnil : Hid _ := hnil
        have Hfr : Hid _ := hfresh
        clear hoth hat hfz hss hsr6 hnil hfresh f5 hr6
        go_wp2
        go_roundw
        case rel =>
          have oth := fun i (h : i ≠ k * 6 + 5) => World.cell?_setCell_other w1 ⟨w.heap.size, k * 6 + 5, none⟩ ⟨w.heap.size, i, none⟩ (.slice a' (ndAt ns k).old.length c') (by intro e; cases e; exact h rfl)
          have at1 := fun i => hb1.cell (p := ⟨w.heap.size, i, none⟩) hg1
          have hl := hL.out
          refine ⟨k + 1, L ++ [{ ndAt ns k with oa := a', ocap := c' }], by omega, by go_num, ?_, fun j hj => ?_, fun j hj => ?_, fun i hi => ?_, ?_, ?_⟩
          · show (L ++ [_]).length = k + 1
            simp [hl]
          · by_cases e : j = k
            · subst e
              rw [← hl, ndAt_snoc_eq, hl]
              exact ⟨rfl, rfl, rfl, rfl, rfl, rfl, Hnil.out⟩
            · rw [ndAt_snoc_lt _ _ _ (by omega)]; exact hno.out j (by omega)
          · have hj' : j < k + 1 := by simpa [hl] using hj
            by_cases e : j = k
            · subst e
              obtain ⟨t0, t1, t2, t3, t4, -⟩ := Hat.out
              rw [← hl, ndAt_snoc_eq, hl]
              refine ⟨?_, ?_, ?_, ?_, ?_, ?_, ?_, ?_⟩
              · rw [oth _ (by omega), at1]; exact t0
              · rw [oth _ (by omega), at1]; exact t1
              · rw [oth _ (by omega), at1]; exact t2
              · rw [oth _ (by omega), at1]; exact t3
              · rw [oth _ (by omega), at1]; exact t4
              · exact World.cell?_setCell_same' _ _ _ (by rw [hc5]; rfl)
              · exact hsr'.setCell _ _ (fun x hx => by have := Hfr.out x hx; show x.block ≠ w.heap.size; omega)
              · intro x hx; have := Hfr.out x hx; omega
            · rw [ndAt_snoc_lt _ _ _ (by omega)]
              obtain ⟨t0, t1, t2, t3, t4, t5, t6, t7⟩ := HCL.out j (by omega)
              have ot := Hoth.out
              refine ⟨?_, ?_, ?_, ?_, ?_, ?_, ?_, t7⟩
              · rw [oth _ (by omega), at1, ot _ (by omega)]; exact t0
              · rw [oth _ (by omega), at1, ot _ (by omega)]; exact t1
              · rw [oth _ (by omega), at1, ot _ (by omega)]; exact t2
              · rw [oth _ (by omega), at1, ot _ (by omega)]; exact t3
              · rw [oth _ (by omega), at1, ot _ (by omega)]; exact t4
              · rw [oth _ (by omega), at1, ot _ (by omega)]; exact t5
              · refine SR.setCell ?_ _ _ (fun x hx => by have := t7 x hx; show x.block ≠ w.heap.size; omega)
                exact (Hsr6.out _ _ t6 (fun x hx => by have := t7 x hx; omega)).below hb1
          · refine ⟨?_, ?_⟩
            · by_cases e : i = k * 6 + 5
              · subst e; exact ⟨_, World.cell?_setCell_same' _ _ _ (by rw [hc5]; rfl)⟩
              · rw [oth _ e, at1]
                by_cases e2 : i < k * 6 ∨ k * 6 + 5 < i
                · rw [Hoth.out _ (by omega)]; exact (HR6.out i hi).1
                · obtain ⟨t0, t1, t2, t3, t4, -⟩ := Hat.out
                  rcases (by omega : i = k * 6 ∨ i = k * 6 + 1 ∨ i = k * 6 + 2 ∨ i = k * 6 + 3 ∨ i = k * 6 + 4) with e3 | e3 | e3 | e3 | e3
                  · rw [e3]; exact ⟨_, t0⟩
                  · rw [e3]; exact ⟨_, t1⟩
                  · rw [e3]; exact ⟨_, t2⟩
                  · rw [e3]; exact ⟨_, t3⟩
                  · rw [e3]; exact ⟨_, t4⟩
            · rw [World.frozen?_setCell, hb1.frozen (p := ⟨w.heap.size, i, none⟩) hg1, Hfz.out]; exact (HR6.out i hi).2
          · exact (below_then hW1 hb1).setCell (Nat.le_refl _) _
          · rw [Deep.nblk_setCell]; have := hb1.size; omega
        case measure => simp [intOf]; omega
      · go_wp2
        go_ret
        refine ⟨⟨_, _, L, rfl, ⟨by rw [hL.out]; omega, w.heap.size, 0, fun _ => ⟨rfl, hsz⟩, fun j hj => ?_⟩, by rw [hL.out]; omega, fun j hj => hno.out j (by omega)⟩, hbel⟩
        obtain ⟨d0, d1, d2, d3, d4, d5, d6, _⟩ := hcl j hj
        simp only [Nat.zero_add]
        exact ⟨d0, d1, d2, d3, d4, d5, d6⟩
end Go.Proofs.Qxb6630552a
