import Derived.WalkKit
import Derived.WalkSpells
import Derived.ChangeMaps4
import Derived.Below
/- MAPS KEYED BY STRINGS: what a look-up, a store, len and clear do to the block; over any program. -/
namespace Go.Proofs.Qxb6630623a
set_option linter.unusedVariables false
set_option linter.unusedSimpArgs false
open Go.ChangeMaps (setBlock)

def sEq (a b : ByteArray) : Bool := a.toList == b.toList
theorem sEq_iff (a b : ByteArray) : sEq a b = true ↔ a = b := by
  unfold sEq
  rw [beq_iff_eq, ByteArray.toList_eq, ByteArray.toList_eq]
  obtain ⟨⟨x⟩⟩ := a
  obtain ⟨⟨y⟩⟩ := b
  simp
theorem sEq_false (a b : ByteArray) : sEq a b = false ↔ a ≠ b := by
  rw [ne_eq, ← sEq_iff]; simp
theorem sEq_self (a : ByteArray) : sEq a a = true := (sEq_iff a a).2 rfl
theorem sEq_comm (a b : ByteArray) : sEq a b = sEq b a := by
  rw [Bool.eq_iff_iff, sEq_iff, sEq_iff]; exact ⟨Eq.symm, Eq.symm⟩
theorem mkHid {p : Prop} (h : p) : Go.RowKit.Hid p := h

abbrev KV := List (ByteArray × Value)

/-- Block b is a map that holds l, in this order. -/
def MapIs (w : World) (b : Nat) (l : KV) : Prop := ∃ es clk, w.heap[b]? = some (.map es clk) ∧ es.toList.map (fun e => (e.key, e.val)) = l.map (fun p => (Value.string p.1, p.2))

def lookIx : KV → ByteArray → Nat → Option (Nat × Value)
  | [], _, _ => none
  | p :: l, k, i => if sEq k p.1 then some (i, p.2) else lookIx l k (i + 1)
def look : KV → ByteArray → Option Value
  | [], _ => none
  | p :: l, k => if sEq k p.1 then some p.2 else look l k
def putKV : KV → ByteArray → Value → KV
  | [], k, v => [(k, v)]
  | p :: l, k, v => if sEq k p.1 then (k, v) :: l else p :: putKV l k v

theorem lookIx_look (l : KV) (k : ByteArray) (i : Nat) : (lookIx l k i).map (·.2) = look l k := by
  induction l generalizing i with
  | nil => rfl
  | cons p l ih => simp only [lookIx, look]; split <;> simp_all

theorem findNow_is (k : ByteArray) : ∀ (es : List MapEntry) (l : KV) (i : Nat), es.map (fun e => (e.key, e.val)) = l.map (fun p => (Value.string p.1, p.2)) → Instr.findNow .string (.string k) es i = some (lookIx l k i)
  | [], [], i, _ => rfl
  | [], _ :: _, _, h => by simp at h
  | _ :: _, [], _, h => by simp at h
  | e :: es, p :: l, i, h => by
    simp only [List.map_cons, List.cons.injEq, Prod.mk.injEq] at h
    obtain ⟨⟨h1, h2⟩, h3⟩ := h
    have ih := findNow_is k es l (i + 1) h3
    have e1 : (k == p.1) = sEq k p.1 := beq_toListBytes _ _
    simp only [Instr.findNow, Instr.sameNow, h1, e1, lookIx]
    cases sEq k p.1 <;> simp [ih, h2]

section
variable {P : Program} {t e : TypeId} {z : Value} {W : World} {b : Nat} {l : KV}

theorem isKey_str (k : ByteArray) : MapKept.IsKey .string (.string k) := trivial
theorem checkKey_string (h9 : P.underlying 9 = some .string) (em : Bool) (k : ByteArray) (w : World) : (Instr.checkKey em 10000 9 (.string k)).run P w = .ok () w := by
  exact MapKept.run_checkKey (n := 9999) h9 (isKey_str k) em

theorem run_look (ht : P.underlying t = some (.map 9 e)) (h9 : P.underlying 9 = some .string) (hz : (P.info? e).map (·.zero) = some (some z)) (hm : MapIs W b l) (k : ByteArray) (c : Bool) :
    (Instr.lookup t (.map (some b)) (.string k) c).run P W = .ok (if c then .tuple #[(look l k).getD z, .bool (look l k).isSome] else (look l k).getD z) W := by
  obtain ⟨es, clk, hb, hl⟩ := hm
  obtain ⟨i, hi, hzz⟩ := Option.map_eq_some_iff.1 hz
  have hf := findNow_is k es.toList l 0 hl
  have hx := lookIx_look l k 0
  simp only [Instr.lookup, Sem.run_bind, run_underlying ht, Result.andThen_ok, MapKept.run_getObj_map hb, checkKey_string h9, Instr.findKey, run_underlying h9, hf, Sem.run_pure]
  cases hq : lookIx l k 0 with
  | none => rw [hq] at hx; simp at hx; cases c <;> simp [← hx, zeroValue, typeInfo, hi, hzz]
  | some p => obtain ⟨j, v⟩ := p; rw [hq] at hx; simp at hx; cases c <;> simp [← hx]

theorem lookIx_spec (l : KV) (k : ByteArray) (i : Nat) (j : Nat) (v : Value) (h : lookIx l k i = some (j, v)) : ∃ q, i ≤ j ∧ l[j - i]? = some (q, v) ∧ sEq k q = true ∧ (∀ w, putKV l k w = l.set (j - i) (k, w)) := by
  induction l generalizing i with
  | nil => cases h
  | cons p l ih =>
    simp only [lookIx] at h
    by_cases e : sEq k p.1 = true
    · rw [if_pos e] at h
      cases h
      exact ⟨p.1, Nat.le_refl _, by simp, e, fun w => by simp [putKV, e]⟩
    · rw [if_neg e] at h
      obtain ⟨q, h1, h2, h3, h4⟩ := ih (i + 1) h
      refine ⟨q, by omega, ?_, h3, fun w => ?_⟩
      · rw [show j - i = (j - (i + 1)) + 1 by omega]; simpa using h2
      · rw [show j - i = (j - (i + 1)) + 1 by omega]; simp [putKV, e, h4]
theorem putKV_none (l : KV) (k : ByteArray) (v : Value) (i : Nat) (h : lookIx l k i = none) : putKV l k v = l ++ [(k, v)] := by
  induction l generalizing i with
  | nil => rfl
  | cons p l ih =>
    simp only [lookIx] at h
    by_cases e : sEq k p.1 = true
    · rw [if_pos e] at h; cases h
    · rw [if_neg e] at h; simp [putKV, e, ih _ h]

/-- m[k] = v. -/
theorem run_put (ht : P.underlying t = some (.map 9 e)) (h9 : P.underlying 9 = some .string) (hm : MapIs W b l) (k : ByteArray) (v : Value) :
    ∃ es clk, (Instr.mapUpdate t (.map (some b)) (.string k) v).run P W = .ok () (setBlock W b (.map es clk)) ∧ es.toList.map (fun e => (e.key, e.val)) = (putKV l k v).map (fun p => (Value.string p.1, p.2)) := by
  obtain ⟨es, clk, hb, hl⟩ := hm
  have hf := findNow_is k es.toList l 0 hl
  cases hq : lookIx l k 0 with
  | none =>
    rw [hq] at hf
    refine ⟨es.push { key := .string k, val := v, born := clk }, clk + 1, ?_, ?_⟩
    · simp [Instr.mapUpdate, run_underlying ht, MapKept.run_getObj_map hb, checkKey_string h9, Instr.findKey, run_underlying h9, hf, MapKept.run_setObj_map _ hb, setBlock]
    · rw [putKV_none l k v 0 hq]; simp [hl]
  | some p =>
    obtain ⟨j, u⟩ := p
    rw [hq] at hf
    obtain ⟨q, -, h2, h3, h4⟩ := lookIx_spec l k 0 j u hq
    simp only [Nat.sub_zero] at h2 h4
    have hq' : q = k := ((sEq_iff k q).1 h3).symm
    subst hq'
    have hj : ∃ e, es.toList[j]? = some e ∧ e.key = .string q := by
      have := congrArg (fun x => x[j]?) hl
      simp only [List.getElem?_map, h2, Option.map_some] at this
      cases hx : es.toList[j]? with
      | none => rw [hx] at this; simp at this
      | some e => rw [hx] at this; simp at this; exact ⟨e, rfl, this.1⟩
    obtain ⟨e0, hj1, hj2⟩ := hj
    have hj3 : es[j]? = some e0 := by simpa using hj1
    refine ⟨es.modify j fun e => { e with key := .string q, val := v }, clk, ?_, ?_⟩
    · simp [Instr.mapUpdate, run_underlying ht, MapKept.run_getObj_map hb, checkKey_string h9, Instr.findKey, run_underlying h9, hf, hj3, hj2, MapKept.run_keyThatStays (d := .string) (isKey_str q), MapKept.run_setObj_map _ hb, setBlock]
    · rw [h4]
      apply List.ext_getElem?
      intro i
      have hi := congrArg (fun x => x[i]?) hl
      simp only [List.getElem?_map] at hi
      simp only [List.getElem?_map, Array.toList_modify, List.getElem?_modify, List.getElem?_set]
      by_cases e : j = i
      · subst e
        rw [hj1, h2]
        have : j < l.length := (List.getElem?_eq_some_iff.1 h2).1
        simp [this]
      · simpa [e] using hi

theorem run_look_nil (ht : P.underlying t = some (.map 9 e)) (h9 : P.underlying 9 = some .string) (hz : (P.info? e).map (·.zero) = some (some z)) (k : ByteArray) (c : Bool) (w : World) :
    (Instr.lookup t (.map none) (.string k) c).run P w = .ok (if c then .tuple #[z, .bool false] else z) w := by
  obtain ⟨i, hi, hzz⟩ := Option.map_eq_some_iff.1 hz
  simp only [Instr.lookup, Sem.run_bind, run_underlying ht, Result.andThen_ok, Sem.run_pure, checkKey_string h9, Instr.findKey, run_underlying h9, Instr.findNow]
  cases c <;> simp [zeroValue, typeInfo, hi, hzz]
theorem run_maplen_nil (ty : TypeId) (ht : P.underlying t = some (.map 9 e)) (w : World) : (Builtin.len_ #[t] ty #[.map none]).run P w = .ok (.int .i64 0) w := by
  simp [Builtin.len_, run_underlying ht, goInt]
theorem run_maplen (ty : TypeId) (ht : P.underlying t = some (.map 9 e)) (hm : MapIs W b l) : (Builtin.len_ #[t] ty #[.map (some b)]).run P W = .ok (.int .i64 (l.length : Nat)) W := by
  obtain ⟨es, clk, hb, hl⟩ := hm
  have : es.size = l.length := by simpa using congrArg List.length hl
  simp [Builtin.len_, run_underlying ht, MapKept.run_getObj_map hb, goInt, this]

theorem run_mapclear (ty : TypeId) (ht : P.underlying t = some (.map 9 e)) (hm : MapIs W b l) : ∃ clk, (Builtin.clear_ #[t] ty #[.map (some b)]).run P W = .ok (.tuple #[]) (setBlock W b (.map #[] clk)) := by
  obtain ⟨es, clk, hb, hl⟩ := hm
  exact ⟨clk, by simp [Builtin.clear_, run_underlying ht, MapKept.run_getObj_map hb, MapKept.run_setObj_map _ hb, setBlock]⟩
end

/-! ### What becomes of a block -/
theorem heap_setBlock_other (w : World) (b k : Nat) (o : Obj) (h : k ≠ b) : (setBlock w b o).heap[k]? = w.heap[k]? := by
  simp only [setBlock]
  rw [Array.getElem?_setIfInBounds_ne (by omega)]
theorem heap_setBlock_same (w : World) (b : Nat) (o : Obj) (h : b < w.heap.size) : (setBlock w b o).heap[b]? = some o := by
  simp only [setBlock]
  rw [Array.getElem?_setIfInBounds_self_of_lt h]
theorem size_setBlock (w : World) (b : Nat) (o : Obj) : (setBlock w b o).heap.size = w.heap.size := by simp [setBlock]
theorem heap_setCell_same (w : World) (b i : Nat) (v : Value) (c : Array Value) (t : TypeId) (fr : Nat × Nat) (h : w.heap[b]? = some (.cells c t fr)) :
    (w.setCell ⟨b, i, none⟩ v).heap[b]? = some (.cells (c.setIfInBounds i v) t fr) := by
  simp only [World.setCell, Array.getElem?_modify, if_true, h]
  rfl
theorem MapIs.lt {w : World} {b : Nat} {l : KV} (h : MapIs w b l) : b < w.heap.size := by
  obtain ⟨es, clk, hb, -⟩ := h
  exact (Array.getElem?_eq_some_iff.1 hb).1
theorem MapIs.of_block {w w' : World} {b : Nat} {l : KV} (h : MapIs w b l) (he : w'.heap[b]? = w.heap[b]?) : MapIs w' b l := by
  obtain ⟨es, clk, hb, hl⟩ := h
  exact ⟨es, clk, he.trans hb, hl⟩
theorem MapIs.alloc {w : World} {b : Nat} {l : KV} (h : MapIs w b l) (o : Obj) : MapIs (w.alloc o) b l := h.of_block (Go.RowKit.Below.heap_alloc _ _ _ h.lt)
theorem MapIs.drew {w : World} {b : Nat} {l : KV} (h : MapIs w b l) : MapIs w.drew b l := h
theorem MapIs.setCell {w : World} {b : Nat} {l : KV} (h : MapIs w b l) (a : Addr) (v : Value) : MapIs (w.setCell a v) b l := by
  obtain ⟨es, clk, hb, hl⟩ := h
  refine ⟨es, clk, ?_, hl⟩
  by_cases e : b = a.block
  · subst e; simp only [World.setCell, Array.getElem?_modify, if_true, hb]; rfl
  · rw [Go.RowKit.Below.heap_setCell _ _ _ _ e]; exact hb
theorem MapIs.below {B : Nat} {w w' : World} {b : Nat} {l : KV} (h : MapIs w b l) (hb : Go.RowKit.Below B w w') (hlt : b < B) : MapIs w' b l := h.of_block (hb.block b hlt)
theorem MapIs.made (w : World) : MapIs (w.alloc (.map #[] 0)) w.heap.size [] := ⟨#[], 0, by show (w.heap.push _)[w.heap.size]? = _; simp, rfl⟩
theorem MapIs.setBlock_other {w : World} {b : Nat} {l : KV} (h : MapIs w b l) (c : Nat) (o : Obj) (hne : b ≠ c) : MapIs (setBlock w c o) b l := h.of_block (heap_setBlock_other _ _ _ _ hne)
theorem below_setBlock {B : Nat} {w0 w : World} (h : Go.RowKit.Below B w0 w) (b : Nat) (o : Obj) (hb : B ≤ b) : Go.RowKit.Below B w0 (setBlock w b o) :=
  h.trans ⟨rfl, rfl, rfl, by rw [size_setBlock]; exact Nat.le_refl _, fun k hk => heap_setBlock_other _ _ _ _ (by omega)⟩

/-! ### The store as a function of the world -/
def putEntries (es : Array MapEntry) (clk : Nat) (k : ByteArray) (v : Value) : Obj :=
  match Instr.findNow .string (.string k) es.toList 0 with
  | some (some (i, _)) => .map (es.modify i fun e => { e with key := .string k, val := v }) clk
  | _ => .map (es.push { key := .string k, val := v, born := clk }) (clk + 1)
def putMap (W : World) (b : Nat) (k : ByteArray) (v : Value) : World :=
  match W.heap[b]? with
  | some (.map es clk) => setBlock W b (putEntries es clk k v)
  | _ => W
def clearMap (W : World) (b : Nat) : World :=
  match W.heap[b]? with
  | some (.map _ clk) => setBlock W b (.map #[] clk)
  | _ => W

theorem run_putMap {P : Program} {t e : TypeId} {W : World} {b : Nat} {l : KV} (ht : P.underlying t = some (.map 9 e)) (h9 : P.underlying 9 = some .string) (k : ByteArray) (v : Value) (hm : MapIs W b l) :
    (Instr.mapUpdate t (.map (some b)) (.string k) v).run P W = .ok () (putMap W b k v) ∧ MapIs (putMap W b k v) b (putKV l k v) := by
  obtain ⟨es', clk', h1, h2⟩ := run_put ht h9 hm k v
  have hlt := hm.lt
  obtain ⟨es, clk, hb, hl⟩ := hm
  have hf := findNow_is k es.toList l 0 hl
  have key : putMap W b k v = setBlock W b (.map es' clk') := by
    have h3 : (Instr.mapUpdate t (.map (some b)) (.string k) v).run P W = .ok () (putMap W b k v) := by
      cases hq : lookIx l k 0 with
      | none =>
        rw [hq] at hf
        simp [Instr.mapUpdate, run_underlying ht, MapKept.run_getObj_map hb, checkKey_string h9, Instr.findKey, run_underlying h9, hf, MapKept.run_setObj_map _ hb, setBlock, putMap, putEntries, hb]
      | some p =>
        obtain ⟨j, u⟩ := p
        rw [hq] at hf
        obtain ⟨q, -, q2, q3, q4⟩ := lookIx_spec l k 0 j u hq
        simp only [Nat.sub_zero] at q2
        have hq' : q = k := ((sEq_iff k q).1 q3).symm
        subst hq'
        have hj : ∃ e, es.toList[j]? = some e ∧ e.key = .string q := by
          have := congrArg (fun x => x[j]?) hl
          simp only [List.getElem?_map, q2, Option.map_some] at this
          cases hx : es.toList[j]? with
          | none => rw [hx] at this; simp at this
          | some e => rw [hx] at this; simp at this; exact ⟨e, rfl, this.1⟩
        obtain ⟨e0, hj1, hj2⟩ := hj
        have hj3 : es[j]? = some e0 := by simpa using hj1
        simp [Instr.mapUpdate, run_underlying ht, MapKept.run_getObj_map hb, checkKey_string h9, Instr.findKey, run_underlying h9, hf, hj3, hj2, MapKept.run_keyThatStays (d := .string) (isKey_str q), MapKept.run_setObj_map _ hb, setBlock, putMap, putEntries, hb]
    rw [h3] at h1
    injection h1
  rw [key]
  exact ⟨h1, es', clk', heap_setBlock_same _ _ _ hlt, h2⟩
theorem heap_putMap_other (W : World) (b j : Nat) (k : ByteArray) (v : Value) (h : j ≠ b) : (putMap W b k v).heap[j]? = W.heap[j]? := by
  unfold putMap; split
  · exact heap_setBlock_other _ _ _ _ h
  · rfl
theorem size_putMap (W : World) (b : Nat) (k : ByteArray) (v : Value) : (putMap W b k v).heap.size = W.heap.size := by
  unfold putMap; split
  · exact size_setBlock _ _ _
  · rfl
theorem below_putMap {B : Nat} {w0 w : World} (h : Go.RowKit.Below B w0 w) (b : Nat) (k : ByteArray) (v : Value) (hb : B ≤ b) : Go.RowKit.Below B w0 (putMap w b k v) := by
  unfold putMap; split
  · exact below_setBlock h _ _ hb
  · exact h
theorem run_clearMap {P : Program} {t e : TypeId} {W : World} {b : Nat} {l : KV} (ty : TypeId) (ht : P.underlying t = some (.map 9 e)) (hm : MapIs W b l) :
    (Builtin.clear_ #[t] ty #[.map (some b)]).run P W = .ok (.tuple #[]) (clearMap W b) ∧ MapIs (clearMap W b) b [] := by
  have hlt := hm.lt
  obtain ⟨es, clk, hb, hl⟩ := hm
  refine ⟨by simp [Builtin.clear_, run_underlying ht, MapKept.run_getObj_map hb, MapKept.run_setObj_map _ hb, setBlock, clearMap, hb], ?_⟩
  simp only [clearMap, hb]
  exact ⟨#[], clk, heap_setBlock_same _ _ _ hlt, rfl⟩
theorem heap_clearMap_other (W : World) (b j : Nat) (h : j ≠ b) : (clearMap W b).heap[j]? = W.heap[j]? := by
  unfold clearMap; split
  · exact heap_setBlock_other _ _ _ _ h
  · rfl
theorem size_clearMap (W : World) (b : Nat) : (clearMap W b).heap.size = W.heap.size := by
  unfold clearMap; split
  · exact size_setBlock _ _ _
  · rfl
theorem below_clearMap {B : Nat} {w0 w : World} (h : Go.RowKit.Below B w0 w) (b : Nat) (hb : B ≤ b) : Go.RowKit.Below B w0 (clearMap w b) := by
  unfold clearMap; split
  · exact below_setBlock h _ _ hb
  · exact h
theorem look_put (l : KV) (k q : ByteArray) (v : Value) : look (putKV l k v) q = if sEq q k then some v else look l q := by
  induction l with
  | nil => simp only [putKV, look]
  | cons p l ih =>
    simp only [putKV]
    by_cases h : sEq k p.1 = true
    · rw [if_pos h]
      have hk := (sEq_iff _ _).1 h
      simp only [look, ← hk]
      by_cases e : sEq q k = true
      · simp [e]
      · simp [e]
    · rw [if_neg h]
      simp only [look, ih]
      by_cases e : sEq q p.1 = true
      · have e1 := (sEq_iff _ _).1 e
        have : sEq q k = false := by rw [sEq_false, e1]; intro e2; exact h ((sEq_iff _ _).2 e2.symm)
        simp [e, this]
      · simp [e]
end Go.Proofs.Qxb6630623a
