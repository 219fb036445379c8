import Derived.Test.Qxb6630552aState
namespace Go.Proofs.Qxb6630552a
set_option linter.unusedVariables false
set_option linter.unusedSimpArgs false
open Go.RowKit
open Go.ChangeMaps (setBlock)

/-- The answer is a pointer to a State that lies from N on. -/
def IsState (N : Nat) (ft : Int) (ma : Option Addr) (mcap : Nat) (ms : List ByteArray) (L : List NE) (e : Ending) (w' : World) : Prop :=
  ∃ bs bm, e = .returned (.pointer (some ⟨bs, 0, none⟩)) ∧ StI N w' bs bm ft ma mcap ms L

theorem newState_any (ft : Int) (ma : Option Addr) (mcap : Nat) (ms : List ByteArray) (w : World) :
    Calls Try.prog 22 #[.int .i64 ft, .slice ma ms.length mcap] w fun e w' => IsState w.heap.size ft ma mcap ms [] e w' ∧ Below w.heap.size w w' := by
  have hmm := @run_makeMap Try.prog
  go_enter Try.func22, Try.ntmps22
  go_wp2
  go_ret
  refine ⟨⟨w.heap.size + 1, w.heap.size, rfl, ?_, ?_, fun e he => (by cases he), fun e he => (by cases he), by omega, by omega, fun e he => (by cases he), List.Pairwise.nil⟩, ?_⟩
  · have := Deep.blk_alloc_new (w.alloc (.map #[] 0)) (.cells (stArr ft ma ms.length mcap w.heap.size) 65)
    rw [Deep.nblk_alloc] at this
    exact this
  · exact (MapIs.made w).alloc _
  · exact (below_alloc _ _).alloc (by simp) _

def putH : List (ByteArray × Int) → ByteArray → Int → List (ByteArray × Int)
  | [], k, v => [(k, v)]
  | p :: l, k, v => if sEq k p.1 then (k, v) :: l else p :: putH l k v
theorem hkv_putH (l : List (ByteArray × Int)) (k : ByteArray) (t : Int) : hkv (putH l k t) = putKV (hkv l) k (tm t) := by
  induction l with
  | nil => rfl
  | cons p l ih =>
    simp only [putH, hkv, List.map_cons, putKV]
    by_cases h : sEq k p.1 = true
    · simp [h]
    · simp only [h, Bool.false_eq_true, if_false, List.map_cons]
      exact congrArg _ ih

/-- What the heard map holds behind the first k old keys. -/
def oldTo (old : List ByteArray) : Nat → List (ByteArray × Int)
  | 0 => []
  | k + 1 => putH (oldTo old k) (strAt old k) 0

theorem neq22 (w : World) (a : Option Addr) (n c : Nat) : (binOp .neq 22 (.slice a n c) (.slice none 0 0)).run Try.prog w = .ok (.bool (!a.isNone)) w := run_neq_slice_nil_any (P := Try.prog) w 22 9 a n c 0 0 Try.underlying22

def putNE : List NE → NE → List NE
  | [], x => [x]
  | p :: l, x => if sEq x.key p.key then x :: l else p :: putNE l x
theorem nkv_putNE (L : List NE) (x : NE) : nkv (putNE L x) = putKV (nkv L) x.key (.pointer (some ⟨x.blk, 0, none⟩)) := by
  induction L with
  | nil => rfl
  | cons p l ih =>
    simp only [putNE, nkv, List.map_cons, putKV]
    by_cases h : sEq x.key p.key = true
    · simp [h]
    · simp only [h, Bool.false_eq_true, if_false, List.map_cons]
      exact congrArg _ ih
theorem mem_putNE {L : List NE} {x e : NE} (h : e ∈ putNE L x) : e = x ∨ e ∈ L := by
  induction L with
  | nil => left; simpa [putNE] using h
  | cons p l ih =>
    simp only [putNE] at h
    split at h
    · rcases List.mem_cons.1 h with h | h
      · exact .inl h
      · exact .inr (List.mem_cons_of_mem _ h)
    · rcases List.mem_cons.1 h with h | h
      · exact .inr (h ▸ List.mem_cons_self)
      · exact (ih h).imp id (List.mem_cons_of_mem _)
theorem pw_putNE {R : NE → NE → Prop} {L : List NE} {x : NE} (hp : L.Pairwise (fun a b => sEq a.key b.key = false ∧ R a b)) (h1 : ∀ e ∈ L, R e x) (h2 : ∀ e ∈ L, R x e) : (putNE L x).Pairwise (fun a b => sEq a.key b.key = false ∧ R a b) := by
  induction L with
  | nil => exact List.pairwise_singleton _ _
  | cons p l ih =>
    rw [List.pairwise_cons] at hp
    simp only [putNE]
    split
    · rename_i hk
      have hk := (sEq_iff _ _).1 hk
      rw [List.pairwise_cons]
      exact ⟨fun e he => ⟨by rw [hk]; exact (hp.1 e he).1, h2 e (List.mem_cons_of_mem _ he)⟩, hp.2⟩
    · rename_i hk
      rw [List.pairwise_cons]
      refine ⟨fun e he => ?_, ih hp.2 (fun e he => h1 e (List.mem_cons_of_mem _ he)) (fun e he => h2 e (List.mem_cons_of_mem _ he))⟩
      rcases mem_putNE he with rfl | he
      · refine ⟨?_, h1 p List.mem_cons_self⟩
        rw [sEq_comm]; simpa using hk
      · exact hp.1 e he

theorem StI.put {N : Nat} {w w1 : World} {bs bm : Nat} {ft : Int} {ma : Option Addr} {mcap : Nat} {ms : List ByteArray} {L : List NE} (h : StI N w bs bm ft ma mcap ms L) (hN : N ≤ w.heap.size) (hb : Below w.heap.size w w1)
    (x : NE) (hblk : x.blk = w1.heap.size) (hx : HeardAt w1 x) (hhv : ∀ b, x.hv = some b → w.heap.size ≤ b) :
    StI N (putMap (w1.alloc (.cells (nodeArr x) 72)) bm x.key (.pointer (some ⟨x.blk, 0, none⟩))) bs bm ft ma mcap ms (putNE L x) := by
  have hs := hb.size
  have h1 := (h.below hb).below (below_alloc w1 (.cells (nodeArr x) 72))
  have hnew := Deep.blk_alloc_new w1 (.cells (nodeArr x) 72)
  have hput := run_putMap (P := Try.prog) (t := 59) (e := 66) Try.underlying59 Try.underlying9 x.key (.pointer (some ⟨x.blk, 0, none⟩)) h1.mp
  have hbm := h.mp.lt
  have ne : ∀ (b : Nat) (c : Array Value) (t : TypeId), (w1.alloc (.cells (nodeArr x) 72)).heap[b]? = some (.cells c t) → b ≠ bm := by
    intro b c t hc e
    subst e
    obtain ⟨es, clk, hm, -⟩ := h1.mp
    rw [hc] at hm
    cases hm
  have hlt : ∀ e ∈ L, e.blk < w.heap.size := fun e he => lt_of_block (h.nd e he)
  have hvlt : ∀ e ∈ L, ∀ b, e.hv = some b → b < w.heap.size := fun e he b hv => by
    have := h.hd e he
    unfold HeardAt at this
    rw [hv] at this
    exact MapIs.lt this
  refine ⟨?_, ?_, fun e he => ?_, fun e he => ?_, h.lobs, h.lobm, fun e he => ?_, ?_⟩
  · rw [heap_putMap_other _ _ _ _ _ (ne _ _ _ h1.st)]; exact h1.st
  · rw [nkv_putNE]; exact hput.2
  · rcases mem_putNE he with rfl | he
    · rw [hblk] at *
      rw [heap_putMap_other _ _ _ _ _ (ne _ _ _ hnew)]; exact hnew
    · rw [heap_putMap_other _ _ _ _ _ (ne _ _ _ (h1.nd e he))]; exact h1.nd e he
  · rcases mem_putNE he with rfl | he
    · unfold HeardAt at hx ⊢
      cases hv : e.hv with
      | none => rw [hv] at hx; exact hx
      | some b =>
        rw [hv] at hx
        have := hhv b hv
        exact (MapIs.alloc hx _).of_block (heap_putMap_other _ _ _ _ _ (by omega))
    · have hh := h1.hd e he
      unfold HeardAt at hh ⊢
      cases hv : e.hv with
      | none => rw [hv] at hh; exact hh
      | some b =>
        rw [hv] at hh
        exact MapIs.of_block hh (heap_putMap_other _ _ _ _ _ (fun e1 => (h.lo e he).2.2.1 (by rw [hv, e1])))
  · rcases mem_putNE he with rfl | he
    · refine ⟨by omega, ?_, ?_, fun b hv => by have := hhv b hv; omega⟩
      · have := lt_of_block h.st; omega
      · intro hv; have := hhv bm hv; omega
    · exact h.lo e he
  · refine pw_putNE h.pw (fun e he => ?_) (fun e he => ?_)
    · have := hlt e he
      exact ⟨by omega, fun b hv hv' => by have := hvlt e he b hv; have := hhv b hv'; omega⟩
    · have := hlt e he
      exact ⟨by omega, fun b hv hv' => by have := hvlt e he b hv'; have := hhv b hv; omega⟩

theorem atOffset_core (t : Int) (w : World) (ht1 : -9223372036854775808 ≤ t) (ht2 : t ≤ 9223372036854775807) :
    Calls Try.prog 31 #[.int .i64 t] w fun e w' => e = .returned (.agg #[.int .u64 (t % 1000000000), .int .i64 (t / 1000000000), .pointer none]) ∧ Below w.heap.size w w' := atOffset_any t w ht1 ht2

theorem below_alloc_simp {B : Nat} {w W : World} {o : Obj} (h : Below B w W) (hB : B ≤ W.heap.size) : Below B w (W.alloc o) := h.alloc hB o
theorem below_drew_simp {B : Nat} {w W : World} (h : Below B w W) : Below B w W.drew := h.drew
attribute [local go_sem] below_alloc_simp below_drew_simp

theorem keep_alloc {W : World} {p : Addr} {v : Value} {o : Obj} (h : W.cell? p = some v) : (W.alloc o).cell? p = some v := by
  have hlt : p.block < W.heap.size := by
    unfold World.cell? at h
    cases hx : W.heap[p.block]? with
    | none => rw [hx] at h; cases h
    | some o => exact lt_of_block hx
  rw [World.cell?_alloc_lt _ _ _ hlt]; exact h
theorem keep_put {W : World} {p : Addr} {v : Value} {b : Nat} {k : ByteArray} {u : Value} (h : W.cell? p = some v) : (putMap W b k u).cell? p = some v := by
  by_cases e : p.block = b
  · subst e
    unfold putMap
    split
    · rename_i hq; unfold World.cell? at h; rw [hq] at h; cases h
    · exact h
  · unfold World.cell? at h ⊢
    rw [heap_putMap_other _ _ _ _ _ e]; exact h

/-- The node is recorded: its block and its heard map's are new. -/
def Added (N bs bm : Nat) (ft : Int) (ma : Option Addr) (mcap : Nat) (ms : List ByteArray) (L : List NE) (x : ND) (w' : World) : Prop :=
  ∃ blk hv, StI N w' bs bm ft ma mcap ms (putNE L { key := x.addr, blk := blk, seen := x.seen, rep := x.rep, reping := x.reping, dis := x.dis, hv := hv, hl := oldTo x.old x.old.length }) ∧ hv.isNone = x.oa.isNone

set_option maxRecDepth 20000 in
set_option maxHeartbeats 2000000 in
theorem addNode_nil {N : Nat} {w : World} {bs bm : Nat} {ft : Int} {ma : Option Addr} {mcap : Nat} {ms : List ByteArray} {L : List NE} (h : StI N w bs bm ft ma mcap ms L) (hN : N ≤ w.heap.size) (x : ND)
    (hs : SR w x.oa x.old) (ha : x.oa.isNone = true)
    (h1 : -1152921504606846976 ≤ x.seen) (h2 : x.seen ≤ 1152921504606846976) (h3 : -1152921504606846976 ≤ x.rep) (h4 : x.rep ≤ 1152921504606846976) (h5 : -1152921504606846976 ≤ x.reping) (h6 : x.reping ≤ 1152921504606846976) :
    Calls Try.prog 23 #[.pointer (some ⟨bs, 0, none⟩), .string x.addr, .int .i64 x.seen, .int .i64 x.rep, .int .i64 x.reping, .bool x.dis, .slice x.oa x.old.length x.ocap] w fun e w' =>
      e = .returned (.tuple #[]) ∧ Added N bs bm ft ma mcap ms L x w' ∧ Below N w w' := by
  have hold : x.old = [] := by
    obtain ⟨-, b, off, hq, -⟩ := hs
    by_cases e : x.old = []
    · exact e
    · rw [(hq e).1] at ha; cases ha
  have c7 : w.cell? ⟨bs, 7, none⟩ = some (.map (some bm)) := cell_of_block h.st
  have hbs := lt_of_block h.st
  have hbm := h.mp.lt
  have nq := neq22
  have hmap := h.mp
  have hput : ∀ (W : World) (v : Value), Below w.heap.size w W → (Instr.mapUpdate 59 (.map (some bm)) (.string x.addr) v).run Try.prog W = .ok () (putMap W bm x.addr v) :=
    fun W v hm => (run_putMap (P := Try.prog) (t := 59) (e := 66) Try.underlying59 Try.underlying9 x.addr v (hmap.below hm hbm)).1
  clear hmap
  have Hst : Hid (StI N w bs bm ft ma mcap ms L) := h
  have Hold : Hid (x.old = []) := hold
  clear h hold hs
  go_enter Try.func23, Try.ntmps23
  go_wp2
  go_region_held3 (fun W => W.cell? ⟨bs, 7, none⟩ = some (.map (some bm)))
    (first | exact c7 | assumption | exact keep_alloc (by assumption) | exact keep_put (by assumption))
    (first
      | (go_at_call 31; refine (atOffset_core _ _ (by omega) (by omega)).mono ?_; rintro e w1 ⟨rfl, hb1⟩; have hbel : Below w.heap.size w w1 := (by first | exact below_then (Below.refl _ _).drew hb1 | exact below_then (by assumption) hb1); have hsz := hbel.size; have hc7 : w1.cell? ⟨bs, 7, none⟩ = some (.map (some bm)) := (by rw [hbel.cell (p := ⟨bs, 7, none⟩) hbs]; exact c7)))
  go_end0
  refine ⟨rfl, ⟨w1.heap.size, none, ?_, by rw [ha]; rfl⟩, below_putMap ((hbel.mono hN).alloc (by omega) _) _ _ _ Hst.out.lobm⟩
  exact StI.put Hst.out hN hbel { key := x.addr, blk := w1.heap.size, seen := x.seen, rep := x.rep, reping := x.reping, dis := x.dis, hv := none, hl := oldTo x.old x.old.length } rfl
    (by show oldTo x.old x.old.length = []; rw [Hold.out]; rfl) (fun b hb => by cases hb)

set_option maxRecDepth 20000 in
set_option maxHeartbeats 2000000 in
theorem addNode_some {N : Nat} {w : World} {bs bm : Nat} {ft : Int} {ma : Option Addr} {mcap : Nat} {ms : List ByteArray} {L : List NE} (h : StI N w bs bm ft ma mcap ms L) (hN : N ≤ w.heap.size) (x : ND)
    (hs : SR w x.oa x.old) (ha : x.oa.isNone = false)
    (h1 : -1152921504606846976 ≤ x.seen) (h2 : x.seen ≤ 1152921504606846976) (h3 : -1152921504606846976 ≤ x.rep) (h4 : x.rep ≤ 1152921504606846976) (h5 : -1152921504606846976 ≤ x.reping) (h6 : x.reping ≤ 1152921504606846976) :
    Calls Try.prog 23 #[.pointer (some ⟨bs, 0, none⟩), .string x.addr, .int .i64 x.seen, .int .i64 x.rep, .int .i64 x.reping, .bool x.dis, .slice x.oa x.old.length x.ocap] w fun e w' =>
      e = .returned (.tuple #[]) ∧ Added N bs bm ft ma mcap ms L x w' ∧ Below N w w' := by
  have c7 : w.cell? ⟨bs, 7, none⟩ = some (.map (some bm)) := cell_of_block h.st
  have hbs := lt_of_block h.st
  have hbm := h.mp.lt
  have nq := neq22
  have hmm := @run_makeMap Try.prog
  have hmap := h.mp
  have hput : ∀ (W : World) (v : Value), Below w.heap.size w W → (Instr.mapUpdate 59 (.map (some bm)) (.string x.addr) v).run Try.prog W = .ok () (putMap W bm x.addr v) :=
    fun W v hm => (run_putMap (P := Try.prog) (t := 59) (e := 66) Try.underlying59 Try.underlying9 x.addr v (hmap.below hm hbm)).1
  clear hmap
  have Hst : Hid (StI N w bs bm ft ma mcap ms L) := h
  clear h
  obtain ⟨hm, b, off, hq, hcell⟩ := hs
  have hix := ix22 x.oa x.old.length x.ocap b off (fun h => (hq (by intro e; simp [e] at h)).1)
  go_enter Try.func23, Try.ntmps23
  go_wp2
  go_loopw [21] (fun i wr => ∃ k : Nat, k ≤ x.old.length ∧ i = .int .i64 k ∧ MapIs wr w.heap.size (hkv (oldTo x.old k)) ∧ Below w.heap.size w wr) (fun i _ => x.old.length - (intOf i).toNat)
  case atStart => exact ⟨0, Nat.zero_le _, rfl, MapIs.made w, below_alloc _ _⟩
  case round =>
    obtain ⟨k, hk, rfl, hM, hbel0⟩ := hrel
    by_cases hlt : k < x.old.length
    · have hc := hcell k hlt
      have hb := (hq (by intro e; simp [e] at hlt)).2
      rw [← hbel0.cell (p := ⟨b, off + k, none⟩) hb] at hc
      have hp := run_putMap (P := Try.prog) (t := 70) (e := 63) Try.underlying70 Try.underlying9 (strAt x.old k) (tm 0) hM
      obtain ⟨hp1, hp2⟩ := hp
      rw [tm_zero] at hp1 hp2
      have Hp2 : Hid _ := hp2
      clear hp2 hq hcell hput hM
      go_wp2
      go_roundw
      case rel =>
        refine ⟨k + 1, by omega, by go_num, ?_, below_putMap hbel0 _ _ _ (Nat.le_refl _)⟩
        rw [oldTo, hkv_putH, tm_zero]
        exact Hp2.out
      case measure => simp [intOf]; omega
    · have hk' : k = x.old.length := by omega
      subst hk'
      clear hq hcell hix
      have HM : Hid _ := hM
      clear hM
      go_wp2
      go_region_held3 (fun W => W.cell? ⟨bs, 7, none⟩ = some (.map (some bm)))
        (first | exact (by rw [World.cell?_drew]; rw [hbel0.cell (p := ⟨bs, 7, none⟩) hbs]; exact c7) | assumption | exact keep_alloc (by assumption) | exact keep_put (by assumption))
        (first
          | (go_at_call 31; refine (atOffset_core _ _ (by omega) (by omega)).mono ?_; rintro e w1 ⟨rfl, hb1⟩; have hbr : Below wr.heap.size wr w1 := (by first | exact below_then (Below.refl _ _).drew hb1 | exact below_then (by assumption) hb1); have hbel : Below w.heap.size w w1 := below_then hbel0 hbr; have hsz := hbel.size; have hc7 : w1.cell? ⟨bs, 7, none⟩ = some (.map (some bm)) := (by rw [hbel.cell (p := ⟨bs, 7, none⟩) hbs]; exact c7)))

      have hM := HM.out
      go_end0
      refine ⟨rfl, ⟨w1.heap.size, some w.heap.size, ?_, by rw [ha]; rfl⟩, below_putMap ((hbel.mono hN).alloc (by omega) _) _ _ _ Hst.out.lobm⟩
      exact StI.put Hst.out hN hbel { key := x.addr, blk := w1.heap.size, seen := x.seen, rep := x.rep, reping := x.reping, dis := x.dis, hv := some w.heap.size, hl := oldTo x.old x.old.length } rfl
        (MapIs.below (show MapIs wr w.heap.size (hkv (oldTo x.old x.old.length)) from hM) hbr (MapIs.lt (show MapIs wr w.heap.size (hkv (oldTo x.old x.old.length)) from hM))) (fun b hb => by cases hb; exact Nat.le_refl _)

theorem addNode_any {N : Nat} {w : World} {bs bm : Nat} {ft : Int} {ma : Option Addr} {mcap : Nat} {ms : List ByteArray} {L : List NE} (h : StI N w bs bm ft ma mcap ms L) (hN : N ≤ w.heap.size) (x : ND)
    (hs : SR w x.oa x.old) (t1 : inTime x.seen = true) (t2 : inTime x.rep = true) (t3 : inTime x.reping = true) :
    Calls Try.prog 23 #[.pointer (some ⟨bs, 0, none⟩), .string x.addr, .int .i64 x.seen, .int .i64 x.rep, .int .i64 x.reping, .bool x.dis, .slice x.oa x.old.length x.ocap] w fun e w' =>
      e = .returned (.tuple #[]) ∧ Added N bs bm ft ma mcap ms L x w' ∧ Below N w w' := by
  rw [inTime_iff] at t1 t2 t3
  cases ha : x.oa.isNone
  · exact addNode_some h hN x hs ha t1.1 t1.2 t2.1 t2.2 t3.1 t3.2
  · exact addNode_nil h hN x hs ha t1.1 t1.2 t2.1 t2.2 t3.1 t3.2
end Go.Proofs.Qxb6630552a
