import Derived.Test.Qxb6630552aHeard
import Derived.Deep.DeepCutAuto
namespace Go.Proofs.Qxb6630552a
set_option linter.unusedVariables false
set_option linter.unusedSimpArgs false
open Go.RowKit

def startNE (e : NE) (g : Nat) (now ft : Int) : NE := { e with hv := some g, hl := [], reping := if ft.tdiv 2 < now - e.rep then now else e.reping, rep := now }

theorem heard_none {N : Nat} {w : World} {bs bm : Nat} {ft : Int} {ma : Option Addr} {mcap : Nat} {ms : List ByteArray} {L : List NE} (h : StI N w bs bm ft ma mcap ms L) (addr : ByteArray) (hf : findNE L addr = none) (a : Option Addr) (cap : Nat) (hs : List HD) (now : Int) :
    Calls Try.prog 32 #[.pointer (some ⟨bs, 0, none⟩), .string addr, .slice a hs.length cap, tm now] w fun e' w' => e' = .returned (.tuple #[]) ∧ StI N w' bs bm ft ma mcap ms L ∧ Below w.heap.size w w' := by
  unfold tm
  have hb := below_alloc w (.cells #[.int .u64 (now % 1000000000), .int .i64 (now / 1000000000), .pointer none] 63)
  have h1 := h.below hb
  have c7 : w.cell? ⟨bs, 7, none⟩ = some (.map (some bm)) := cell_of_block h.st
  have hbs := lt_of_block h.st
  have hlk := h1.look addr
  rw [hf] at hlk
  simp only [Option.map_none, Option.getD_none] at hlk
  clear hf h
  have H1 : Hid _ := h1
  clear h1
  go_enter Try.func32, Try.ntmps32
  go_wp2
  exact bodyPost_ret (results_none rfl _ _ _) rfl ⟨rfl, H1.out, hb⟩

/-- One entry of the report. -/
def stepL (addr : ByteArray) (ms : List ByteArray) (now : Int) (mem : Bool) (L : List NE) (h : HD) : List NE :=
  match findNE L h.addr, findNE L addr with
  | some _, some n =>
    if indexStr ms h.addr < 0 then L else
    match findNE (setNE L { n with hl := putH n.hl h.addr (vouched now h.ago) }) h.addr with
    | some o => if mem = true ∧ o.dis = false ∧ o.seen < vouched now h.ago then setNE (setNE L { n with hl := putH n.hl h.addr (vouched now h.ago) }) { o with seen := vouched now h.ago } else setNE L { n with hl := putH n.hl h.addr (vouched now h.ago) }
    | none => setNE L { n with hl := putH n.hl h.addr (vouched now h.ago) }
  | _, _ => L
def heardTo (addr : ByteArray) (ms : List ByteArray) (now : Int) (mem : Bool) (L : List NE) (hs : List HD) : Nat → List NE
  | 0 => L
  | k + 1 => stepL addr ms now mem (heardTo addr ms now mem L hs k) (hdAt hs k)
def Bnd (L : List NE) : Prop := ∀ x ∈ L, -2305843009213693952 ≤ x.seen ∧ x.seen ≤ 1152921504606846976

/-- What else is held beside the State: the boxed time, and the report's slice. -/
structure Env (N : Nat) (w0 : World) (nb : Nat) (now : Int) (hb : Nat) (C : Array Value) (hs : List HD) (wc : World) : Prop where
  bel : Below N w0 wc
  nbc : wc.heap[nb]? = some (.cells #[.int .u64 (now % 1000000000), .int .i64 (now / 1000000000), .pointer none] 63)
  hbc : hs ≠ [] → wc.heap[hb]? = some (.cells C 81)

section
variable {N : Nat} {w0 : World} {nb : Nat} {now : Int} {hb : Nat} {C : Array Value} {hs : List HD} {wc : World}
theorem Env.below {w1 : World} (h : Env N w0 nb now hb C hs wc) (hN : N ≤ wc.heap.size) (hb1 : Below wc.heap.size wc w1) : Env N w0 nb now hb C hs w1 :=
  ⟨h.bel.trans (hb1.mono hN), by rw [hb1.block nb (lt_of_block h.nbc)]; exact h.nbc, fun e => by rw [hb1.block hb (lt_of_block (h.hbc e))]; exact h.hbc e⟩
/-- A step that turns the blocks b alone, which is no cells of type 63 or 81. -/
theorem Env.step {w1 : World} (h : Env N w0 nb now hb C hs wc) (b : Nat) (hb0 : N ≤ b) (hne : ∀ c t, wc.heap[b]? = some (.cells c t) → t = 72) (hbel : Below N wc w1) (hoth : ∀ j, j ≠ b → w1.heap[j]? = wc.heap[j]?) : Env N w0 nb now hb C hs w1 := by
  refine ⟨h.bel.trans hbel, ?_, fun e => ?_⟩
  · rw [hoth nb (fun q => absurd (hne _ _ (q ▸ h.nbc)) (by decide))]; exact h.nbc
  · rw [hoth hb (fun q => absurd (hne _ _ (q ▸ h.hbc e)) (by decide))]; exact h.hbc e
variable {bs bm : Nat} {ft : Int} {ma : Option Addr} {mcap : Nat} {ms : List ByteArray} {L : List NE} {k : ByteArray} {e : NE}
theorem Env.three (h : Env N w0 nb now hb C hs wc) (hst : StI N wc bs bm ft ma mcap ms L) (hf : findNE L k = some e) (o : Nat) (t : Int) : Env N w0 nb now hb C hs (three wc e.blk o t) :=
  h.step e.blk (hst.lo e (findNE_mem hf)).1 (fun c t hc => by rw [hst.nd e (findNE_mem hf)] at hc; cases hc; rfl) (three_below (Below.refl _ _) _ _ _ (hst.lo e (findNE_mem hf)).1) (fun j hj => three_other _ _ _ _ _ hj)
theorem Env.setHv (h : Env N w0 nb now hb C hs wc) (hN : N ≤ wc.heap.size) (hst : StI N wc bs bm ft ma mcap ms L) (hf : findNE L k = some e) (v : Value) : Env N w0 nb now hb C hs ((wc.alloc (.map #[] 0)).setCell ⟨e.blk, 7, none⟩ v) := by
  have he := findNE_mem hf
  have hlt := lt_of_block (hst.nd e he)
  have h1 := h.below hN (below_alloc wc (.map #[] 0))
  refine h1.step e.blk (hst.lo e he).1 (fun c t hc => by rw [Deep.blk_alloc_lt _ _ _ hlt, hst.nd e he] at hc; cases hc; rfl) ((Below.refl _ _).setCell (hst.lo e he).1 _) (fun j hj => Below.heap_setCell _ _ _ _ hj)
theorem Env.clear (h : Env N w0 nb now hb C hs wc) (hst : StI N wc bs bm ft ma mcap ms L) (hf : findNE L k = some e) {g : Nat} (hv : e.hv = some g) : Env N w0 nb now hb C hs (clearMap wc g) := by
  have he := findNE_mem hf
  have hm := hst.hd e he
  unfold HeardAt at hm
  rw [hv] at hm
  obtain ⟨es, clk, hx, -⟩ := hm
  exact h.step g ((hst.lo e he).2.2.2 g hv) (fun c t hc => by rw [hx] at hc; cases hc) (below_clearMap (Below.refl _ _) _ ((hst.lo e he).2.2.2 g hv)) (fun j hj => heap_clearMap_other _ _ _ hj)
theorem Env.put (h : Env N w0 nb now hb C hs wc) (hst : StI N wc bs bm ft ma mcap ms L) (hf : findNE L k = some e) {g : Nat} (hv : e.hv = some g) (k' : ByteArray) (v : Value) : Env N w0 nb now hb C hs (putMap wc g k' v) := by
  have he := findNE_mem hf
  have hm := hst.hd e he
  unfold HeardAt at hm
  rw [hv] at hm
  obtain ⟨es, clk, hx, -⟩ := hm
  exact h.step g ((hst.lo e he).2.2.2 g hv) (fun c t hc => by rw [hx] at hc; cases hc) (below_putMap (Below.refl _ _) _ _ _ ((hst.lo e he).2.2.2 g hv)) (fun j hj => heap_putMap_other _ _ _ _ _ hj)
end

theorem findNE_set_self {L : List NE} {k : ByteArray} {e e1 : NE} (hf : findNE L k = some e) (hk : e1.key = e.key) : findNE (setNE L e1) k = some e1 := by
  rw [findNE_set, hf]
  simp only [Option.map_some]
  rw [if_pos ((sEq_iff _ _).2 hk)]
theorem setNE_setNE (L : List NE) (e1 e2 : NE) (hk : e2.key = e1.key) : setNE (setNE L e1) e2 = setNE L e2 := by
  unfold setNE
  rw [List.map_map]
  apply List.map_congr_left
  intro x hx
  simp only [Function.comp]
  by_cases h : sEq e1.key x.key = true
  · have h' : sEq e2.key x.key = true := by rw [hk]; exact h
    simp [h, h', (sEq_iff _ _).2 hk]
  · have h' : ¬ sEq e2.key x.key = true := by rw [hk]; exact h
    simp [h, h']

theorem setNE_self {L : List NE} {R : NE → NE → Prop} (hp : L.Pairwise (fun a b => sEq a.key b.key = false ∧ R a b)) {e : NE} (he : e ∈ L) : setNE L e = L := by
  unfold setNE
  rw [List.map_congr_left (g := id)]
  · simp
  · intro x hx
    by_cases hq : sEq e.key x.key = true
    · simp [hq, nodup_eq hp he hx hq]
    · simp [hq]

theorem sub_core (wl ex wl' ex' : Int) (w : World) (h0 : 0 ≤ wl) (h1 : wl < 1000000000) (h2 : -2399999999 ≤ ex) (h3 : ex ≤ 2399999998) (h4 : 0 ≤ wl') (h5 : wl' < 1000000000) (h6 : -2399999999 ≤ ex') (h7 : ex' ≤ 2399999998) :
    Calls Try.prog 33 #[.agg #[.int .u64 wl, .int .i64 ex, .pointer none], .agg #[.int .u64 wl', .int .i64 ex', .pointer none]] w fun e w' => e = .returned (.int .i64 (ex * 1000000000 + wl - (ex' * 1000000000 + wl'))) ∧ Below w.heap.size w w' := by
  have h := sub_any (ex * 1000000000 + wl) (ex' * 1000000000 + wl') w (by omega) (by omega) (by omega) (by omega)
  have e1 : (ex * 1000000000 + wl) % 1000000000 = wl := by omega
  have e2 : (ex * 1000000000 + wl) / 1000000000 = ex := by omega
  have e3 : (ex' * 1000000000 + wl') % 1000000000 = wl' := by omega
  have e4 : (ex' * 1000000000 + wl') / 1000000000 = ex' := by omega
  unfold tm at h
  rw [e1, e2, e3, e4] at h
  exact h

theorem held6 {w W w1 : World} {a b c : Nat} {v0 v1 v2 v8 v9 v10 u0 : Value} (hb : Below W.heap.size W w1) (hW : Below w.heap.size w W)
    (r0 : w.cell? ⟨a, 0, none⟩ = some v0) (r1 : w.cell? ⟨a, 1, none⟩ = some v1) (r2 : w.cell? ⟨a, 2, none⟩ = some v2) (r8 : w.cell? ⟨b, 8, none⟩ = some v8) (r9 : w.cell? ⟨b, 9, none⟩ = some v9) (r10 : w.cell? ⟨b, 10, none⟩ = some v10)
    (s0 : w.cell? ⟨c, 0, none⟩ = some u0) (ha : a < w.heap.size) (hb' : b < w.heap.size) (hc : c < w.heap.size) :
    Below w.heap.size w w1 ∧ w1.cell? ⟨a, 0, none⟩ = some v0 ∧ w1.cell? ⟨a, 1, none⟩ = some v1 ∧ w1.cell? ⟨a, 2, none⟩ = some v2 ∧ w1.cell? ⟨b, 8, none⟩ = some v8 ∧ w1.cell? ⟨b, 9, none⟩ = some v9 ∧ w1.cell? ⟨b, 10, none⟩ = some v10 ∧ w1.cell? ⟨c, 0, none⟩ = some u0 := by
  have h := below_then hW hb
  refine ⟨h, ?_, ?_, ?_, ?_, ?_, ?_, ?_⟩ <;> (rw [h.cell (by assumption)]; assumption)

/-- The entry of the other node, behind the store into n's heard map. -/
theorem after_put {Lk : List NE} {addr xa : ByteArray} {n o : NE} (hn : findNE Lk addr = some n) (ho : findNE Lk xa = some o) (t : Int) :
    ∃ o5, findNE (setNE Lk { n with hl := putH n.hl xa t }) xa = some o5 ∧ o5.blk = o.blk ∧ o5.seen = o.seen ∧ (o5 = o ∨ (n = o ∧ o5 = { n with hl := putH n.hl xa t })) := by
  rw [findNE_set, ho]
  simp only [Option.map_some]
  by_cases hk : sEq n.key o.key = true
  · have h1 := (sEq_iff _ _).1 hk
    rw [findNE_key hn, findNE_key ho] at h1
    subst h1
    rw [hn] at ho
    cases ho
    exact ⟨{ n with hl := putH n.hl addr t }, by rw [if_pos hk], rfl, rfl, .inr ⟨rfl, rfl⟩⟩
  · exact ⟨o, by rw [if_neg hk], rfl, rfl, .inl rfl⟩

theorem after_seen {L : List NE} {addr xa : ByteArray} {o : NE} {b g : Nat} (hx : ∃ n, findNE L addr = some n ∧ n.blk = b ∧ n.hv = some g) (ho : findNE L xa = some o) (t : Int) :
    ∃ n, findNE (setNE L { o with seen := t }) addr = some n ∧ n.blk = b ∧ n.hv = some g := by
  obtain ⟨n, hn, h1, h2⟩ := hx
  rw [findNE_set, hn]
  simp only [Option.map_some]
  by_cases hk : sEq o.key n.key = true
  · have h3 := (sEq_iff _ _).1 hk
    rw [findNE_key hn, findNE_key ho] at h3
    subst h3
    rw [hn] at ho
    cases ho
    exact ⟨{ o with seen := t }, by rw [if_pos hk], h1, h2⟩
  · exact ⟨n, by rw [if_neg hk], h1, h2⟩

theorem after_core (wl ex wl' ex' : Int) (w : World) (h0 : 0 ≤ wl) (h1 : wl < 1000000000) (h2 : -2399999999 ≤ ex) (h3 : ex ≤ 2399999998) (h4 : 0 ≤ wl') (h5 : wl' < 1000000000) (h6 : -2399999999 ≤ ex') (h7 : ex' ≤ 2399999998) :
    Calls Try.prog 36 #[.agg #[.int .u64 wl, .int .i64 ex, .pointer none], .agg #[.int .u64 wl', .int .i64 ex', .pointer none]] w fun e w' => e = .returned (.bool (decide (ex' * 1000000000 + wl' < ex * 1000000000 + wl))) ∧ Below w.heap.size w w' := by
  have h := after_any (ex * 1000000000 + wl) (ex' * 1000000000 + wl') w (by omega) (by omega) (by omega) (by omega)
  have e1 : (ex * 1000000000 + wl) % 1000000000 = wl := by omega
  have e2 : (ex * 1000000000 + wl) / 1000000000 = ex := by omega
  have e3 : (ex' * 1000000000 + wl') % 1000000000 = wl' := by omega
  have e4 : (ex' * 1000000000 + wl') / 1000000000 = ex' := by omega
  unfold tm at h
  rw [e1, e2, e3, e4] at h
  exact h

theorem held17b {w W w1 : World} {a b : Nat} {v4 v5 v6 v14 u0 u1 u2 : Value} (hb : Below W.heap.size W w1) (hW : Below w.heap.size w W)
    (s4 : w.cell? ⟨a, 4, none⟩ = some v4) (s5 : w.cell? ⟨a, 5, none⟩ = some v5) (s6 : w.cell? ⟨a, 6, none⟩ = some v6) (s14 : w.cell? ⟨a, 14, none⟩ = some v14) (p0 : w.cell? ⟨b, 0, none⟩ = some u0) (p1 : w.cell? ⟨b, 1, none⟩ = some u1) (p2 : w.cell? ⟨b, 2, none⟩ = some u2) (ha : a < w.heap.size) (hb' : b < w.heap.size) :
    Below w.heap.size w w1 ∧ w1.cell? ⟨a, 4, none⟩ = some v4 ∧ w1.cell? ⟨a, 5, none⟩ = some v5 ∧ w1.cell? ⟨a, 6, none⟩ = some v6 ∧ w1.cell? ⟨a, 14, none⟩ = some v14 ∧ w1.cell? ⟨b, 0, none⟩ = some u0 ∧ w1.cell? ⟨b, 1, none⟩ = some u1 ∧ w1.cell? ⟨b, 2, none⟩ = some u2 := by
  have h := below_then hW hb
  refine ⟨h, ?_, ?_, ?_, ?_, ?_, ?_, ?_⟩ <;> (rw [h.cell (by assumption)]; assumption)

theorem cells63_eq {A B A' B' : Int} (h1 : A = A') (h2 : B = B') : some (Obj.cells #[.int .u64 A, .int .i64 B, .pointer none] 63) = some (Obj.cells #[.int .u64 A', .int .i64 B', .pointer none] 63) := by rw [h1, h2]

theorem held14 {w W w1 : World} {a b : Nat} {v3 v4 v5 v6 u0 : Value} (hb : Below W.heap.size W w1) (hW : Below w.heap.size w W)
    (s3 : w.cell? ⟨a, 3, none⟩ = some v3) (s4 : w.cell? ⟨a, 4, none⟩ = some v4) (s5 : w.cell? ⟨a, 5, none⟩ = some v5) (s6 : w.cell? ⟨a, 6, none⟩ = some v6) (x0 : w.cell? ⟨b, 0, none⟩ = some u0) (ha : a < w.heap.size) (hb' : b < w.heap.size) :
    Below w.heap.size w w1 ∧ w1.cell? ⟨a, 3, none⟩ = some v3 ∧ w1.cell? ⟨a, 4, none⟩ = some v4 ∧ w1.cell? ⟨a, 5, none⟩ = some v5 ∧ w1.cell? ⟨a, 6, none⟩ = some v6 ∧ w1.cell? ⟨b, 0, none⟩ = some u0 := by
  have h := below_then hW hb
  refine ⟨h, ?_, ?_, ?_, ?_, ?_⟩ <;> (rw [h.cell (by assumption)]; assumption)

/-- What State.Heard leaves: the sender's entry begun anew, then the report's entries one by one. -/
def HeardPost (N bs bm : Nat) (ft : Int) (ma : Option Addr) (mcap : Nat) (ms : List ByteArray) (L : List NE) (addr : ByteArray) (e : NE) (hs : List HD) (now : Int) (w' : World) : Prop :=
  ∃ g, StI N w' bs bm ft ma mcap ms (heardTo addr ms now (decide (0 ≤ indexStr ms addr)) (setNE L (startNE e g now ft)) hs hs.length)

set_option maxRecDepth 20000 in
set_option maxHeartbeats 4000000 in
theorem heard_some {N : Nat} {w : World} {bs bm : Nat} {ft : Int} {ma : Option Addr} {mcap : Nat} {ms : List ByteArray} {L : List NE} (h : StI N w bs bm ft ma mcap ms L) (hN : N ≤ w.heap.size) (addr : ByteArray) (e : NE) (hf : findNE L addr = some e)
    (a : Option Addr) (cap hb : Nat) (C : Array Value) (hs : List HD) (now : Int) (hh : hs ≠ [] → a = some ⟨hb, 0, none⟩ ∧ w.heap[hb]? = some (.cells C 81)) (hm : ∀ W, Below N w W → SR W ma ms)
    (hn1 : -1152921504606846976 ≤ now) (hn2 : now ≤ 1152921504606846976) (hr1 : -1152921504606846976 ≤ e.rep) (hr2 : e.rep ≤ 1152921504606846976) (hft1 : -9223372036854775808 ≤ ft) (hft2 : ft ≤ 9223372036854775807)
    (hC : ∀ k, k < hs.length → C[k * 2]? = some (.string (hdAt hs k).addr) ∧ C[k * 2 + 1]? = some (.int .i64 (hdAt hs k).ago)) (hag : ∀ k, k < hs.length → (hdAt hs k).ago ≤ 1152921504606846976) (hag2 : ∀ k, k < hs.length → -9223372036854775808 ≤ (hdAt hs k).ago) (hlen : hs.length ≤ 4096) (hbd : Bnd L) :
    Calls Try.prog 32 #[.pointer (some ⟨bs, 0, none⟩), .string addr, .slice a hs.length cap, tm now] w fun e' w' => e' = .returned (.tuple #[]) ∧ HeardPost N bs bm ft ma mcap ms L addr e hs now w' ∧ Below N w w' := by
  unfold tm
  have hb0 := below_alloc w (.cells #[.int .u64 (now % 1000000000), .int .i64 (now / 1000000000), .pointer none] 63)
  have h1 := h.below hb0
  have c7 : w.cell? ⟨bs, 7, none⟩ = some (.map (some bm)) := cell_of_block h.st
  have hbs := lt_of_block h.st
  have hlk := h1.look addr
  rw [hf] at hlk
  simp only [Option.map_some, Option.getD_some] at hlk
  have he := h.nd e (findNE_mem hf)
  have hblt := lt_of_block he
  have n7 : w.cell? ⟨e.blk, 7, none⟩ = some (.map e.hv) := cell_of_block he
  have f7 : w.frozen? ⟨e.blk, 7, none⟩ = false := frozen_of_block he
  have nm := nilmap70
  have hmm := @run_makeMap Try.prog
  have H1 : Hid (StI N (w.alloc (.cells #[.int .u64 (now % 1000000000), .int .i64 (now / 1000000000), .pointer none] 63)) bs bm ft ma mcap ms L) := h1
  have Hf : Hid (findNE L addr = some e) := hf
  have HE : Hid (Env N w w.heap.size now hb C hs (w.alloc (.cells #[.int .u64 (now % 1000000000), .int .i64 (now / 1000000000), .pointer none] 63))) :=
    ⟨hb0.mono hN, Deep.blk_alloc_new _ _, fun q => by rw [Deep.blk_alloc_lt _ _ _ (lt_of_block (hh q).2)]; exact (hh q).2⟩
  have Hm : Hid _ := hm
  clear h1 hf h he hm hb0
  have hw2 : IntKind.i64.wrap (ft.tdiv 2) = ft.tdiv 2 := by
    have q0 := Int.mul_tdiv_add_tmod ft 2
    have q3 := Int.tmod_lt_of_pos ft (b := 2) (by omega)
    have q4 := Int.lt_tmod_of_pos ft (b := 2) (by omega)
    rw [IntKind.wrap_i64]; omega
  go_enter Try.func32, Try.ntmps32
  go_upto_if 26 with (fail)
  go_cut [] (fun wc => ∃ g l, Hid (StI N wc bs bm ft ma mcap ms (setNE L { e with hv := some g, hl := l })) ∧ Hid (Env N w w.heap.size now hb C hs wc))
  case first =>
    cases hv : e.hv with
    | none =>
      have hq : e.hv.isNone = true := by rw [hv]; rfl
      have Hv : Hid _ := hv
      clear hv
      go_wp2
      go_meet
      case rel =>
        have q1 := H1.out.setHv Hf.out (by rw [Deep.nblk_alloc]; omega)
        have q2 := HE.out.setHv (by rw [Deep.nblk_alloc]; omega) H1.out Hf.out (.map (some (w.heap.size + 1)))
        rw [Deep.nblk_alloc] at q1
        rw [World.setCell_alloc_past _ _ _ _ (by rw [Deep.nblk_alloc]; omega), World.setCell_alloc_past _ _ _ _ hblt] at q1 q2
        exact ⟨_, _, q1, q2⟩
    | some g =>
      have hq : e.hv.isNone = false := by rw [hv]; rfl
      have Hv : Hid _ := hv
      clear hv
      go_wp2
      go_meet
      case rel =>
        refine ⟨g, e.hl, ?_, HE.out⟩
        have q : ({ e with hv := some g, hl := e.hl } : NE) = e := by rw [← Hv.out]
        rw [q, setNE_self H1.out.pw (findNE_mem Hf.out)]
        exact H1.out
  case rest =>
    obtain ⟨g, l, HS, HE1⟩ := hcut
    have hsz := HE1.out.bel.size
    have hf1 : findNE (setNE L { e with hv := some g, hl := l }) addr = some { e with hv := some g, hl := l } := findNE_set_self Hf.out rfl
    have he1 := HS.out.nd _ (findNE_mem hf1)
    have m7 : wc.cell? ⟨e.blk, 7, none⟩ = some (.map (some g)) := cell_of_block he1
    have hmg : MapIs wc g (hkv l) := HS.out.hd _ (findNE_mem hf1)
    have hclr := (run_clearMap (P := Try.prog) (t := 70) (e := 63) 0 Try.underlying70 hmg).1
    have HS2 : Hid (StI N (clearMap wc g) bs bm ft ma mcap ms (setNE L { e with hv := some g, hl := [] })) := by
      have : StI N (clearMap wc g) bs bm ft ma mcap ms (setNE (setNE L { e with hv := some g, hl := l }) { e with hv := some g, hl := [] }) := HS.out.setClear hf1 (by omega) rfl
      rw [setNE_setNE L { e with hv := some g, hl := l } { e with hv := some g, hl := [] } rfl] at this
      exact this
    have HE2 : Hid (Env N w w.heap.size now hb C hs (clearMap wc g)) := HE1.out.clear HS.out hf1 rfl
    have hs2 : w.heap.size ≤ (clearMap wc g).heap.size := by rw [size_clearMap]; exact hsz
    clear HS HE1 hmg he1 c7 n7 f7 hlk hf1
    go_upto_region 6 with (fail)
    -- the region that reads the two times and calls Sub
    have hf2 : findNE (setNE L { e with hv := some g, hl := [] }) addr = some { e with hv := some g, hl := [] } := findNE_set_self Hf.out rfl
    have he2 := HS2.out.nd _ (findNE_mem hf2)
    have heb := lt_of_block he2
    have hnb := lt_of_block HE2.out.nbc
    have hbb := lt_of_block HS2.out.st
    generalize hW : clearMap wc g = W at *
    have r0 : W.cell? ⟨w.heap.size, 0, none⟩ = some (.int .u64 (now % 1000000000)) := cell_of_block HE2.out.nbc
    have r1 : W.cell? ⟨w.heap.size, 1, none⟩ = some (.int .i64 (now / 1000000000)) := cell_of_block HE2.out.nbc
    have r2 : W.cell? ⟨w.heap.size, 2, none⟩ = some (.pointer none) := cell_of_block HE2.out.nbc
    have r8 : W.cell? ⟨e.blk, 8, none⟩ = some (.int .u64 (e.rep % 1000000000)) := cell_of_block he2
    have r9 : W.cell? ⟨e.blk, 9, none⟩ = some (.int .i64 (e.rep / 1000000000)) := cell_of_block he2
    have r10 : W.cell? ⟨e.blk, 10, none⟩ = some (.pointer none) := cell_of_block he2
    have s0 : W.cell? ⟨bs, 0, none⟩ = some (.int .i64 ft) := cell_of_block HS2.out.st
    clear hW hf2 he2 hclr m7
    go_region_held3 (fun W' => Below W.heap.size W W' ∧ W'.cell? ⟨w.heap.size, 0, none⟩ = some (.int .u64 (now % 1000000000)) ∧ W'.cell? ⟨w.heap.size, 1, none⟩ = some (.int .i64 (now / 1000000000)) ∧ W'.cell? ⟨w.heap.size, 2, none⟩ = some (.pointer none) ∧
        W'.cell? ⟨e.blk, 8, none⟩ = some (.int .u64 (e.rep % 1000000000)) ∧ W'.cell? ⟨e.blk, 9, none⟩ = some (.int .i64 (e.rep / 1000000000)) ∧ W'.cell? ⟨e.blk, 10, none⟩ = some (.pointer none) ∧ W'.cell? ⟨bs, 0, none⟩ = some (.int .i64 ft))
      (first | exact ⟨(Below.refl _ _).drew, r0, r1, r2, r8, r9, r10, s0⟩ | exact held6 hb1 (And.left (by assumption)) r0 r1 r2 r8 r9 r10 s0 hnb heb hbb)
      (first
        | (go_at_call 33; refine (sub_core _ _ _ _ _ (by omega) (by omega) (by omega) (by omega) (by omega) (by omega) (by omega) (by omega)).mono ?_; rintro e' w1 ⟨rfl, hb1⟩))
    have hW1 := And.left (by assumption)
    have HS3 : Hid (StI N w1 bs bm ft ma mcap ms (setNE L { e with hv := some g, hl := [] })) := HS2.out.below hW1
    have HE3 : Hid (Env N w w.heap.size now hb C hs w1) := HE2.out.below (by omega) hW1
    have hs3 : w.heap.size ≤ w1.heap.size := by have := hW1.size; omega
    clear HS2 HE2 r0 r1 r2 r8 r9 r10 s0 hb1 heb hnb hbb
    have hf3 : findNE (setNE L { e with hv := some g, hl := [] }) addr = some { e with hv := some g, hl := [] } := findNE_set_self Hf.out rfl
    have he3 := HS3.out.nd _ (findNE_mem hf3)
    have heb := lt_of_block he3
    have hnb := lt_of_block HE3.out.nbc
    have r0 : w1.cell? ⟨w.heap.size, 0, none⟩ = some (.int .u64 (now % 1000000000)) := cell_of_block HE3.out.nbc
    have r1 : w1.cell? ⟨w.heap.size, 1, none⟩ = some (.int .i64 (now / 1000000000)) := cell_of_block HE3.out.nbc
    have r2 : w1.cell? ⟨w.heap.size, 2, none⟩ = some (.pointer none) := cell_of_block HE3.out.nbc
    have t11 : ∃ v, w1.cell? ⟨e.blk, 11, none⟩ = some v := ⟨_, cell_of_block he3⟩
    have t12 : ∃ v, w1.cell? ⟨e.blk, 12, none⟩ = some v := ⟨_, cell_of_block he3⟩
    have t13 : ∃ v, w1.cell? ⟨e.blk, 13, none⟩ = some v := ⟨_, cell_of_block he3⟩
    obtain ⟨v11, t11⟩ := t11
    obtain ⟨v12, t12⟩ := t12
    obtain ⟨v13, t13⟩ := t13
    have f11 : w1.frozen? ⟨e.blk, 11, none⟩ = false := frozen_of_block he3
    have f12 : w1.frozen? ⟨e.blk, 12, none⟩ = false := frozen_of_block he3
    have f13 : w1.frozen? ⟨e.blk, 13, none⟩ = false := frozen_of_block he3
    have Hf3 : Hid _ := hf3
    clear he3 hf3
    go_upto_if 46 with (fail)
    go_cut [] (fun wc => Hid (StI N wc bs bm ft ma mcap ms (setNE L { e with hv := some g, hl := [], reping := if ft.tdiv 2 < now - e.rep then now else e.reping })) ∧ Hid (Env N w w.heap.size now hb C hs wc))
    case first =>
      by_cases hq : ft.tdiv 2 < now - e.rep
      · have hq' : ft.tdiv 2 < now / 1000000000 * 1000000000 + now % 1000000000 - (e.rep / 1000000000 * 1000000000 + e.rep % 1000000000) := by omega
        go_wp2
        go_meet
        case rel =>
          have q1 := HS3.out.setReping Hf3.out (by omega) now
          have q2 := HE3.out.three HS3.out Hf3.out 11 now
          change StI N (three w1 e.blk 11 now) bs bm ft ma mcap ms (setNE (setNE L { e with hv := some g, hl := [] }) { e with hv := some g, hl := [], reping := now }) at q1
          rw [setNE_setNE L { e with hv := some g, hl := [] } { e with hv := some g, hl := [], reping := now } rfl] at q1
          rw [if_pos hq]
          exact ⟨q1, q2⟩
      · have hq' : ¬ ft.tdiv 2 < now / 1000000000 * 1000000000 + now % 1000000000 - (e.rep / 1000000000 * 1000000000 + e.rep % 1000000000) := by omega
        go_wp2
        go_meet
        case rel =>
          rw [if_neg (by omega)]
          exact ⟨HS3.out, HE3.out⟩
    case rest =>
      obtain ⟨HS4, HE4⟩ := hcut
      clear HS3 HE3 r0 r1 r2 t11 t12 t13 f11 f12 f13 heb hnb Hf3
      have hrep : Hid (∃ rp : Int, rp = if ft.tdiv 2 < now - e.rep then now else e.reping) := ⟨_, rfl⟩
      generalize hrp : (if ft.tdiv 2 < now - e.rep then now else e.reping) = rp at *
      have Hrp : Hid _ := hrp
      clear hrp hrep
      have hs4 : w.heap.size ≤ wc.heap.size := HE4.out.bel.size
      have hf4 : findNE (setNE L { e with hv := some g, hl := [], reping := rp }) addr = some { e with hv := some g, hl := [], reping := rp } := findNE_set_self Hf.out rfl
      have he4 := HS4.out.nd _ (findNE_mem hf4)
      have heb := lt_of_block he4
      have hnb := lt_of_block HE4.out.nbc
      have r0 : wc.cell? ⟨w.heap.size, 0, none⟩ = some (.int .u64 (now % 1000000000)) := cell_of_block HE4.out.nbc
      have r1 : wc.cell? ⟨w.heap.size, 1, none⟩ = some (.int .i64 (now / 1000000000)) := cell_of_block HE4.out.nbc
      have r2 : wc.cell? ⟨w.heap.size, 2, none⟩ = some (.pointer none) := cell_of_block HE4.out.nbc
      obtain ⟨v8, t8⟩ : ∃ v, wc.cell? ⟨e.blk, 8, none⟩ = some v := ⟨_, cell_of_block he4⟩
      obtain ⟨v9, t9⟩ : ∃ v, wc.cell? ⟨e.blk, 9, none⟩ = some v := ⟨_, cell_of_block he4⟩
      obtain ⟨v10, t10⟩ : ∃ v, wc.cell? ⟨e.blk, 10, none⟩ = some v := ⟨_, cell_of_block he4⟩
      have f8 : wc.frozen? ⟨e.blk, 8, none⟩ = false := frozen_of_block he4
      have f9 : wc.frozen? ⟨e.blk, 9, none⟩ = false := frozen_of_block he4
      have f10 : wc.frozen? ⟨e.blk, 10, none⟩ = false := frozen_of_block he4
      have q1 := HS4.out.setRep hf4 (by omega) now
      have q2 := HE4.out.three HS4.out hf4 8 now
      change StI N (three wc e.blk 8 now) bs bm ft ma mcap ms (setNE (setNE L { e with hv := some g, hl := [], reping := rp }) { e with hv := some g, hl := [], reping := rp, rep := now }) at q1
      rw [setNE_setNE L { e with hv := some g, hl := [], reping := rp } { e with hv := some g, hl := [], reping := rp, rep := now } rfl] at q1
      have s3 : (three wc e.blk 8 now).cell? ⟨bs, 3, none⟩ = some (.int .u64 0) := cell_of_block q1.st
      have s4 : (three wc e.blk 8 now).cell? ⟨bs, 4, none⟩ = some (.slice ma ms.length mcap) := cell_of_block q1.st
      have s5 : (three wc e.blk 8 now).cell? ⟨bs, 5, none⟩ = some (.string ByteArray.empty) := cell_of_block q1.st
      have s6 : (three wc e.blk 8 now).cell? ⟨bs, 6, none⟩ = some (.int .u64 0) := cell_of_block q1.st
      have HS5 : Hid _ := q1
      have HE5 : Hid _ := q2
      clear q1 q2 he4 hf4 HS4 HE4
      unfold three at s3 s4 s5 s6
      go_wp2_with fail
      refine (configIndex_any 0 ma mcap ms ByteArray.empty 0 addr _ (Hm.out _ HE5.out.bel)).mono ?_
      rintro e' w2 ⟨rfl, hb2⟩
      have hs5 : w.heap.size ≤ (three wc e.blk 8 now).heap.size := by rw [three_size]; exact hs4
      have HS6 : Hid (StI N w2 bs bm ft ma mcap ms (setNE L { e with hv := some g, hl := [], reping := rp, rep := now })) := HS5.out.below hb2
      have HE6 : Hid (Env N w w.heap.size now hb C hs w2) := HE5.out.below (by omega) hb2
      clear HS5 HE5 s3 s4 s5 s6 r0 r1 r2 t8 t9 t10 f8 f9 f10 heb hnb hb2 hs5 H1 HE hsz
      go_wp2
      have hbd1 : Bnd (setNE L { e with hv := some g, hl := [], reping := rp, rep := now }) := by
        intro x hx
        rcases mem_setNE hx with rfl | ⟨hx, -⟩
        · exact hbd e (findNE_mem Hf.out)
        · exact hbd x hx
      have hfn : findNE (setNE L { e with hv := some g, hl := [], reping := rp, rep := now }) addr = some { e with hv := some g, hl := [], reping := rp, rep := now } := findNE_set_self Hf.out rfl
      have HX : Hid (∃ n, findNE (setNE L { e with hv := some g, hl := [], reping := rp, rep := now }) addr = some n ∧ n.blk = e.blk ∧ n.hv = some g) := ⟨_, hfn, rfl, rfl⟩
      have HB : Hid _ := hbd1
      clear hfn hbd1
      generalize hL0 : setNE L { e with hv := some g, hl := [], reping := rp, rep := now } = L0 at *
      have HL0 : Hid (setNE L { e with hv := some g, hl := [], reping := rp, rep := now } = L0) := hL0
      clear hL0
      generalize hmem : decide (0 ≤ indexStr ms addr) = mem at *
      have Hmem : Hid _ := hmem
      have HC : Hid _ := hC
      have HA : Hid _ := hag
      have HA2 : Hid _ := hag2
      clear hmem hC hag hag2
      have hix := ix79 a hs.length cap hb 0 (fun q => (hh (by intro q2; simp [q2] at q)).1)
      simp only [Nat.zero_add] at hix
      go_loopw [64] (fun i wr => ∃ k : Nat, k ≤ hs.length ∧ i = .int .i64 k ∧ Hid (StI N wr bs bm ft ma mcap ms (heardTo addr ms now mem L0 hs k)) ∧ Hid (Env N w w.heap.size now hb C hs wr) ∧
        Hid (∃ n, findNE (heardTo addr ms now mem L0 hs k) addr = some n ∧ n.blk = e.blk ∧ n.hv = some g) ∧ Hid (Bnd (heardTo addr ms now mem L0 hs k))) (fun i _ => hs.length - (intOf i).toNat)
      case atStart => exact ⟨0, Nat.zero_le _, rfl, HS6, HE6, HX, HB⟩
      case round =>
        clear HS6 HE6 HX HB
        obtain ⟨k, hk, rfl, HS, HE, HX, HB⟩ := hrel
        by_cases hlt : k < hs.length
        · obtain ⟨d0, d1⟩ := HC.out k hlt
          have a1 := HA.out k hlt
          have a2 := HA2.out k hlt
          have hsz := HE.out.bel.size
          have hbc := HE.out.hbc (by intro q; simp [q] at hlt)
          have g0 : wr.cell? ⟨hb, k * 2, none⟩ = some (.string (hdAt hs k).addr) := by rw [cell_of_block hbc]; exact d0
          have g1 : wr.cell? ⟨hb, k * 2 + 1, none⟩ = some (.int .i64 (hdAt hs k).ago) := by rw [cell_of_block hbc]; exact d1
          have HK : Hid (heardTo addr ms now mem L0 hs (k + 1) = stepL addr ms now mem (heardTo addr ms now mem L0 hs k) (hdAt hs k)) := rfl
          generalize heardTo addr ms now mem L0 hs k = Lk at *
          generalize hE1 : heardTo addr ms now mem L0 hs (k + 1) = Lk1 at *
          have HL1 : Hid (heardTo addr ms now mem L0 hs (k + 1) = Lk1) := hE1
          clear hE1
          generalize hdAt hs k = x at *
          clear HC HA HA2 d0 d1 hbc
          have HS1 := HS.out.below (below_alloc wr (.cells #[.string x.addr, .int .i64 x.ago] 81))
          have HE1 := HE.out.below (by omega) (below_alloc wr (.cells #[.string x.addr, .int .i64 x.ago] 81))
          have hlk := (HS1.below (Below.refl _ _).drew).look x.addr
          have c7 : wr.cell? ⟨bs, 7, none⟩ = some (.map (some bm)) := cell_of_block HS.out.st
          have hbs' := lt_of_block HS.out.st
          have k7 : ((wr.alloc (.cells #[.string x.addr, .int .i64 x.ago] 81)).drew).cell? ⟨bs, 7, none⟩ = some (.map (some bm)) := cell_of_block (HS1.below (Below.refl _ _).drew).st
          have k0 : ((wr.alloc (.cells #[.string x.addr, .int .i64 x.ago] 81)).drew).cell? ⟨wr.heap.size, 0, none⟩ = some (.string x.addr) := cell_of_block (Deep.blk_alloc_new wr (.cells #[.string x.addr, .int .i64 x.ago] 81))
          have H1S : Hid _ := HS1
          have H1E : Hid _ := HE1
          clear HS1 HE1
          cases hfx : findNE Lk x.addr with
          | none =>
            rw [hfx] at hlk
            simp only [Option.map_none, Option.getD_none] at hlk
            have Hfx : Hid _ := hfx
            clear hfx
            go_wp2
            go_region_held3 (fun W => W.cell? ⟨bs, 7, none⟩ = some (.map (some bm)) ∧ W.cell? ⟨wr.heap.size, 0, none⟩ = some (.string x.addr) ∧ (Instr.lookup 59 (.map (some bm)) (.string x.addr) false).run Try.prog W = .ok (.pointer none) W)
              (first | exact ⟨k7, k0, hlk⟩)
              (fail)
            clear hlk k7 k0 c7 g0 g1
            go_wp2
            go_quiet (fail)
            go_wp2
            go_roundw
            case rel =>
              have hK := HK.out
              have hst : stepL addr ms now mem Lk x = Lk := by unfold stepL; rw [Hfx.out]
              rw [hst] at hK
              refine ⟨k + 1, by omega, by go_num, ?_, ?_, ?_, ?_⟩
              · rw [HL1.out, hK]; exact H1S.out.below ⟨rfl, rfl, rfl, Nat.le_refl _, fun _ _ => rfl⟩
              · exact H1E.out.below (by simp; omega) ⟨rfl, rfl, rfl, Nat.le_refl _, fun _ _ => rfl⟩
              · rw [HL1.out, hK]; exact HX
              · rw [HL1.out, hK]; exact HB
            case measure => simp [intOf]; omega
          | some o =>
            rw [hfx] at hlk
            simp only [Option.map_some, Option.getD_some] at hlk
            have Hfx : Hid (findNE Lk x.addr = some o) := hfx
            clear hfx
            go_wp2
            go_region_held3 (fun W => W.cell? ⟨bs, 7, none⟩ = some (.map (some bm)) ∧ W.cell? ⟨wr.heap.size, 0, none⟩ = some (.string x.addr) ∧ (Instr.lookup 59 (.map (some bm)) (.string x.addr) false).run Try.prog W = .ok (.pointer (some ⟨o.blk, 0, none⟩)) W)
              (first | exact ⟨k7, k0, hlk⟩)
              (fail)
            clear hlk k7 k0 c7 g0 g1
            go_wp2
            -- region 14: the configuration's index of the address
            have HS2 : Hid (StI N (wr.alloc (.cells #[.string x.addr, .int .i64 x.ago] 81)).drew bs bm ft ma mcap ms Lk) := H1S.out.below (Below.refl _ _).drew
            have HE2 : Hid (Env N w w.heap.size now hb C hs (wr.alloc (.cells #[.string x.addr, .int .i64 x.ago] 81)).drew) := H1E.out.below (by simp; omega) (Below.refl _ _).drew
            have b0 : (wr.alloc (.cells #[.string x.addr, .int .i64 x.ago] 81)).drew.heap[wr.heap.size]? = some (.cells #[.string x.addr, .int .i64 x.ago] 81) := Deep.blk_alloc_new wr (.cells #[.string x.addr, .int .i64 x.ago] 81)
            generalize hW2 : (wr.alloc (.cells #[.string x.addr, .int .i64 x.ago] 81)).drew = W2 at *
            have hw2s : wr.heap.size < W2.heap.size := by rw [← hW2]; simp
            clear hW2 H1S H1E
            have s3 : W2.cell? ⟨bs, 3, none⟩ = some (.int .u64 0) := cell_of_block HS2.out.st
            have s4 : W2.cell? ⟨bs, 4, none⟩ = some (.slice ma ms.length mcap) := cell_of_block HS2.out.st
            have s5 : W2.cell? ⟨bs, 5, none⟩ = some (.string ByteArray.empty) := cell_of_block HS2.out.st
            have s6 : W2.cell? ⟨bs, 6, none⟩ = some (.int .u64 0) := cell_of_block HS2.out.st
            have x0 : W2.cell? ⟨wr.heap.size, 0, none⟩ = some (.string x.addr) := cell_of_block b0
            have hm2 : ∀ W, Below W2.heap.size W2 W → SR W ma ms := fun W hW => Hm.out W (HE2.out.bel.trans (hW.mono (by omega)))
            have Hm2 : Hid _ := hm2
            have B0 : Hid _ := b0
            clear hm2 b0
            go_region_held3 (fun W => Below W2.heap.size W2 W ∧ W.cell? ⟨bs, 3, none⟩ = some (.int .u64 0) ∧ W.cell? ⟨bs, 4, none⟩ = some (.slice ma ms.length mcap) ∧ W.cell? ⟨bs, 5, none⟩ = some (.string ByteArray.empty) ∧ W.cell? ⟨bs, 6, none⟩ = some (.int .u64 0) ∧ W.cell? ⟨wr.heap.size, 0, none⟩ = some (.string x.addr))
              (first | exact ⟨(Below.refl _ _).drew, s3, s4, s5, s6, x0⟩ | exact held14 hb3 (And.left (by assumption)) s3 s4 s5 s6 x0 (by omega) (by omega))
              (first
                | (go_at_call 35; refine (configIndex_any 0 ma mcap ms ByteArray.empty 0 x.addr _ (Hm2.out _ (And.left (by assumption)))).mono ?_; rintro e' w3 ⟨rfl, hb3⟩))
            have hW3 := And.left (by assumption)
            have HS3 : Hid (StI N w3 bs bm ft ma mcap ms Lk) := HS2.out.below hW3
            have HE3 : Hid (Env N w w.heap.size now hb C hs w3) := HE2.out.below (by omega) hW3
            have hs3 : wr.heap.size < w3.heap.size := by have := hW3.size; omega
            have B3 : Hid (w3.heap[wr.heap.size]? = some (.cells #[.string x.addr, .int .i64 x.ago] 81)) := by show w3.heap[wr.heap.size]? = _; rw [hW3.block _ hw2s]; exact B0.out
            clear HS2 HE2 s3 s4 s5 s6 x0 Hm2 B0 hW3
            by_cases hix0 : indexStr ms x.addr < 0
            · go_wp2
              go_roundw
              case rel =>
                have hK := HK.out
                have hst : stepL addr ms now mem Lk x = Lk := by
                  obtain ⟨n, hn, -⟩ := HX.out
                  unfold stepL; rw [Hfx.out, hn]; simp only []; rw [if_pos hix0]
                rw [hst] at hK
                refine ⟨k + 1, by omega, by go_num, ?_, HE3.out, ?_, ?_⟩
                · rw [HL1.out, hK]; exact HS3.out
                · rw [HL1.out, hK]; exact HX
                · rw [HL1.out, hK]; exact HB
              case measure => simp [intOf]; omega
            · have y0 : w3.cell? ⟨wr.heap.size, 1, none⟩ = some (.int .i64 x.ago) := cell_of_block B3.out
              have r0 : w3.cell? ⟨w.heap.size, 0, none⟩ = some (.int .u64 (now % 1000000000)) := cell_of_block HE3.out.nbc
              have r1 : w3.cell? ⟨w.heap.size, 1, none⟩ = some (.int .i64 (now / 1000000000)) := cell_of_block HE3.out.nbc
              have r2 : w3.cell? ⟨w.heap.size, 2, none⟩ = some (.pointer none) := cell_of_block HE3.out.nbc
              go_upto_region 15 with (fail)
              go_cut [13] (fun s13 wc => ∃ q, s13 = .pointer (some ⟨q, 0, none⟩) ∧ Hid (wc.heap[q]? = some (.cells #[.int .u64 (vouched now x.ago % 1000000000), .int .i64 (vouched now x.ago / 1000000000), .pointer none] 63)) ∧ Hid (StI N wc bs bm ft ma mcap ms Lk) ∧ Hid (Env N w w.heap.size now hb C hs wc) ∧
                Hid (wc.heap[wr.heap.size]? = some (.cells #[.string x.addr, .int .i64 x.ago] 81)))
              case first =>
                by_cases hneg : x.ago < 0
                · have hv : Hid (vouched now x.ago = now) := by unfold Hid vouched; omega
                  go_wp2_with (go_at_call 34; refine (add_core (now % 1000000000) (now / 1000000000) _ _ (by omega) (by omega) (by omega) (by omega) (by omega) (by omega)).mono ?_; rintro e' w4 ⟨rfl, hb4⟩)
                  go_meet
                  case rel =>
                    have hs4 := hb4.size
                    refine ⟨w4.heap.size, rfl, ?_, (HS3.out.below hb4).below (below_alloc _ _), (HE3.out.below (by omega) hb4).below (by omega) (below_alloc _ _), ?_⟩
                    · show (w4.alloc _).heap[w4.heap.size]? = _
                      rw [Deep.blk_alloc_new]
                      exact cells63_eq (by have := hv.out; omega) (by have := hv.out; omega)
                    · show (w4.alloc _).heap[wr.heap.size]? = _
                      rw [Deep.blk_alloc_lt _ _ _ (by omega), hb4.block _ hs3]; exact B3.out
                · have hv : Hid (vouched now x.ago = now - x.ago) := by unfold Hid vouched; omega
                  go_wp2_with (go_at_call 34; refine (add_core (now % 1000000000) (now / 1000000000) _ _ (by omega) (by omega) (by omega) (by omega) (by omega) (by omega)).mono ?_; rintro e' w4 ⟨rfl, hb4⟩)
                  go_meet
                  case rel =>
                    have hs4 := hb4.size
                    refine ⟨w4.heap.size, rfl, ?_, (HS3.out.below hb4).below (below_alloc _ _), (HE3.out.below (by omega) hb4).below (by omega) (below_alloc _ _), ?_⟩
                    · show (w4.alloc _).heap[w4.heap.size]? = _
                      rw [Deep.blk_alloc_new]
                      exact cells63_eq (by have := hv.out; omega) (by have := hv.out; omega)
                    · show (w4.alloc _).heap[wr.heap.size]? = _
                      rw [Deep.blk_alloc_lt _ _ _ (by omega), hb4.block _ hs3]; exact B3.out
              case rest =>
                obtain ⟨q, rfl, Q4, HS4, HE4, B4⟩ := hcut
                obtain ⟨n, hn, hnb, hng⟩ := HX.out
                clear HS3 HE3 B3 y0 r0 r1 r2 hs3
                have hs4 := HE4.out.bel.size
                have hn4 := HS4.out.nd n (findNE_mem hn)
                rw [hnb] at hn4
                have hmap4 : MapIs wc g (hkv n.hl) := by
                  have := HS4.out.hd n (findNE_mem hn)
                  unfold HeardAt at this
                  rw [hng] at this
                  exact this
                have m7 : wc.cell? ⟨e.blk, 7, none⟩ = some (.map (some g)) := by rw [cell_of_block hn4]; show some (Value.map n.hv) = _; rw [hng]
                have x0 : wc.cell? ⟨wr.heap.size, 0, none⟩ = some (.string x.addr) := cell_of_block B4.out
                have p0 : wc.cell? ⟨q, 0, none⟩ = some (.int .u64 (vouched now x.ago % 1000000000)) := cell_of_block Q4.out
                have p1 : wc.cell? ⟨q, 1, none⟩ = some (.int .i64 (vouched now x.ago / 1000000000)) := cell_of_block Q4.out
                have p2 : wc.cell? ⟨q, 2, none⟩ = some (.pointer none) := cell_of_block Q4.out
                have hput := (run_putMap (P := Try.prog) (t := 70) (e := 63) Try.underlying70 Try.underlying9 x.addr (tm (vouched now x.ago)) (show MapIs wc.drew g (hkv n.hl) from hmap4)).1
                unfold tm at hput
                have HN : Hid (findNE Lk addr = some n ∧ n.blk = e.blk ∧ n.hv = some g) := ⟨hn, hnb, hng⟩
                clear hn hnb hng hn4 hmap4
                go_wp2
                go_region_held3 (fun W => W.cell? ⟨e.blk, 7, none⟩ = some (.map (some g)) ∧ W.cell? ⟨wr.heap.size, 0, none⟩ = some (.string x.addr) ∧ W.cell? ⟨q, 0, none⟩ = some (.int .u64 (vouched now x.ago % 1000000000)) ∧ W.cell? ⟨q, 1, none⟩ = some (.int .i64 (vouched now x.ago / 1000000000)) ∧ W.cell? ⟨q, 2, none⟩ = some (.pointer none))
                  (first | exact ⟨m7, x0, p0, p1, p2⟩ | exact ⟨keep_put m7, keep_put x0, keep_put p0, keep_put p1, keep_put p2⟩)
                  (fail)
                clear hput m7 x0 p0 p1 p2
                obtain ⟨hn, hnb, hng⟩ := HN.out
                have HS5 : Hid (StI N (putMap wc.drew g x.addr (.agg #[.int .u64 (vouched now x.ago % 1000000000), .int .i64 (vouched now x.ago / 1000000000), .pointer none])) bs bm ft ma mcap ms (setNE Lk { n with hl := putH n.hl x.addr (vouched now x.ago) })) :=
                  (HS4.out.below (Below.refl _ _).drew).setPut hn (show N ≤ wc.heap.size by omega) hng x.addr (vouched now x.ago)
                have HE5 : Hid (Env N w w.heap.size now hb C hs (putMap wc.drew g x.addr (.agg #[.int .u64 (vouched now x.ago % 1000000000), .int .i64 (vouched now x.ago / 1000000000), .pointer none]))) :=
                  (HE4.out.below (by omega) (Below.refl _ _).drew).put (HS4.out.below (Below.refl _ _).drew) hn hng x.addr _
                have hqg : q ≠ g := by
                  intro hq
                  have := HS4.out.hd n (findNE_mem hn)
                  unfold HeardAt at this
                  rw [hng] at this
                  obtain ⟨es, clk, hx, -⟩ := this
                  have hq4 := Q4.out
                  rw [hq, hx] at hq4
                  cases hq4
                have Q5 : Hid ((putMap wc.drew g x.addr (.agg #[.int .u64 (vouched now x.ago % 1000000000), .int .i64 (vouched now x.ago / 1000000000), .pointer none])).heap[q]? = some (.cells #[.int .u64 (vouched now x.ago % 1000000000), .int .i64 (vouched now x.ago / 1000000000), .pointer none] 63)) := by
                  show (putMap wc.drew g x.addr _).heap[q]? = _
                  rw [heap_putMap_other _ _ _ _ _ hqg]; exact Q4.out
                have hs5 : w.heap.size ≤ (putMap wc.drew g x.addr (.agg #[.int .u64 (vouched now x.ago % 1000000000), .int .i64 (vouched now x.ago / 1000000000), .pointer none])).heap.size := by rw [size_putMap]; exact hs4
                generalize putMap wc.drew g x.addr (.agg #[.int .u64 (vouched now x.ago % 1000000000), .int .i64 (vouched now x.ago / 1000000000), .pointer none]) = W5 at *
                clear HS4 HE4 Q4 B4 hqg hn hnb hng
                obtain ⟨o5, ho5, ho5b, ho5s, hn5⟩ := after_put HN.out.1 Hfx.out (vouched now x.ago)
                have hK5 : Hid (Lk1 = if mem = true ∧ o5.dis = false ∧ o5.seen < vouched now x.ago then setNE (setNE Lk { n with hl := putH n.hl x.addr (vouched now x.ago) }) { o5 with seen := vouched now x.ago } else setNE Lk { n with hl := putH n.hl x.addr (vouched now x.ago) }) := by
                  show Lk1 = _
                  rw [HK.out]
                  unfold stepL
                  rw [Hfx.out, HN.out.1]
                  simp only []
                  rw [if_neg (by omega), ho5]
                have ob5 := HS5.out.nd o5 (findNE_mem ho5)
                rw [ho5b] at ob5
                have obl := lt_of_block ob5
                have qbl := lt_of_block Q5.out
                have o4 : W5.cell? ⟨o.blk, 4, none⟩ = some (.int .u64 (o5.seen % 1000000000)) := cell_of_block ob5
                have o5' : W5.cell? ⟨o.blk, 5, none⟩ = some (.int .i64 (o5.seen / 1000000000)) := cell_of_block ob5
                have o6 : W5.cell? ⟨o.blk, 6, none⟩ = some (.pointer none) := cell_of_block ob5
                have o14 : W5.cell? ⟨o.blk, 14, none⟩ = some (.bool o5.dis) := cell_of_block ob5
                have p0 : W5.cell? ⟨q, 0, none⟩ = some (.int .u64 (vouched now x.ago % 1000000000)) := cell_of_block Q5.out
                have p1 : W5.cell? ⟨q, 1, none⟩ = some (.int .i64 (vouched now x.ago / 1000000000)) := cell_of_block Q5.out
                have p2 : W5.cell? ⟨q, 2, none⟩ = some (.pointer none) := cell_of_block Q5.out
                have HO5 : Hid (findNE (setNE Lk { n with hl := putH n.hl x.addr (vouched now x.ago) }) x.addr = some o5) := ho5
                have HOb : Hid (o5.blk = o.blk) := ho5b
                have HOs : Hid (o5.seen = o.seen) := ho5s
                have HN5 : Hid _ := hn5
                have hvb : -2305843009213693952 ≤ vouched now x.ago ∧ vouched now x.ago ≤ 1152921504606846976 := by unfold vouched; omega
                have hob : -2305843009213693952 ≤ o5.seen ∧ o5.seen ≤ 1152921504606846976 := by rw [ho5s]; exact HB.out o (findNE_mem Hfx.out)
                obtain ⟨vb1, vb2⟩ := hvb
                obtain ⟨ob1, ob2⟩ := hob
                have HB5 : Hid (Bnd (setNE Lk { n with hl := putH n.hl x.addr (vouched now x.ago) })) := by
                  intro y hy
                  rcases mem_setNE hy with rfl | ⟨hy, -⟩
                  · exact HB.out n (findNE_mem HN.out.1)
                  · exact HB.out y hy
                clear ho5 ho5b ho5s ob5 hn5 HK HE HS
                have HX5 : Hid (∃ n', findNE (setNE Lk { n with hl := putH n.hl x.addr (vouched now x.ago) }) addr = some n' ∧ n'.blk = e.blk ∧ n'.hv = some g) := ⟨_, findNE_set_self HN.out.1 rfl, HN.out.2.1, HN.out.2.2⟩
                cases mem with
                | false =>
                  go_wp2
                  go_quiet (fail)
                  go_wp2
                  go_roundw
                  case rel =>
                    have hK := hK5.out
                    rw [if_neg (by intro hq; cases hq.1)] at hK
                    refine ⟨k + 1, by omega, by go_num, ?_, ?_, ?_, ?_⟩
                    · rw [HL1.out, hK]; exact HS5.out.below ⟨rfl, rfl, rfl, Nat.le_refl _, fun _ _ => rfl⟩
                    · exact HE5.out.below (by omega) ⟨rfl, rfl, rfl, Nat.le_refl _, fun _ _ => rfl⟩
                    · rw [HL1.out, hK]; exact HX5.out
                    · rw [HL1.out, hK]; exact HB5.out
                  case measure => simp [intOf]; omega
                | true =>
                  cases hdis : o5.dis with
                  | true =>
                    rw [hdis] at o14
                    have Hdis : Hid _ := hdis
                    clear hdis
                    go_wp2
                    go_quiet (fail)
                    go_wp2
                    go_roundw
                    case rel =>
                      have hK := hK5.out
                      rw [if_neg (by intro hq; rw [Hdis.out] at hq; cases hq.2.1)] at hK
                      refine ⟨k + 1, by omega, by go_num, ?_, ?_, ?_, ?_⟩
                      · rw [HL1.out, hK]; exact HS5.out.below ⟨rfl, rfl, rfl, Nat.le_refl _, fun _ _ => rfl⟩
                      · exact HE5.out.below (by omega) ⟨rfl, rfl, rfl, Nat.le_refl _, fun _ _ => rfl⟩
                      · rw [HL1.out, hK]; exact HX5.out
                      · rw [HL1.out, hK]; exact HB5.out
                    case measure => simp [intOf]; omega
                  | false =>
                    rw [hdis] at o14
                    have Hdis : Hid _ := hdis
                    clear hdis
                    go_wp2
                    go_region_held3 (fun W => Below W5.heap.size W5 W ∧ W.cell? ⟨o.blk, 4, none⟩ = some (.int .u64 (o5.seen % 1000000000)) ∧ W.cell? ⟨o.blk, 5, none⟩ = some (.int .i64 (o5.seen / 1000000000)) ∧ W.cell? ⟨o.blk, 6, none⟩ = some (.pointer none) ∧ W.cell? ⟨o.blk, 14, none⟩ = some (.bool false) ∧
                        W.cell? ⟨q, 0, none⟩ = some (.int .u64 (vouched now x.ago % 1000000000)) ∧ W.cell? ⟨q, 1, none⟩ = some (.int .i64 (vouched now x.ago / 1000000000)) ∧ W.cell? ⟨q, 2, none⟩ = some (.pointer none))
                      (first | exact ⟨(Below.refl _ _).drew, o4, o5', o6, o14, p0, p1, p2⟩ | exact held17b hb6 (And.left (by assumption)) o4 o5' o6 o14 p0 p1 p2 obl qbl)
                      (first
                        | (go_at_call 36; refine (after_core _ _ _ _ _ (by omega) (by omega) (by omega) (by omega) (by omega) (by omega) (by omega) (by omega)).mono ?_; rintro e' w6 ⟨rfl, hb6⟩))
                    have hW6 := And.left (by assumption)
                    have HS6 : Hid (StI N w6 bs bm ft ma mcap ms (setNE Lk { n with hl := putH n.hl x.addr (vouched now x.ago) })) := HS5.out.below hW6
                    have HE6 : Hid (Env N w w.heap.size now hb C hs w6) := HE5.out.below (by omega) hW6
                    have hs6 := hW6.size
                    have oc := HS6.out.nd o5 (findNE_mem HO5.out)
                    rw [HOb.out] at oc
                    obtain ⟨v4, z4⟩ : ∃ v, w6.cell? ⟨o.blk, 4, none⟩ = some v := ⟨_, cell_of_block oc⟩
                    obtain ⟨v5, z5⟩ : ∃ v, w6.cell? ⟨o.blk, 5, none⟩ = some v := ⟨_, cell_of_block oc⟩
                    obtain ⟨v6, z6⟩ : ∃ v, w6.cell? ⟨o.blk, 6, none⟩ = some v := ⟨_, cell_of_block oc⟩
                    have y4 : w6.frozen? ⟨o.blk, 4, none⟩ = false := frozen_of_block oc
                    have y5 : w6.frozen? ⟨o.blk, 5, none⟩ = false := frozen_of_block oc
                    have y6 : w6.frozen? ⟨o.blk, 6, none⟩ = false := frozen_of_block oc
                    have p0' : w6.cell? ⟨q, 0, none⟩ = some (.int .u64 (vouched now x.ago % 1000000000)) := by rw [hW6.cell (p := ⟨q, 0, none⟩) qbl]; exact p0
                    have p1' : w6.cell? ⟨q, 1, none⟩ = some (.int .i64 (vouched now x.ago / 1000000000)) := by rw [hW6.cell (p := ⟨q, 1, none⟩) qbl]; exact p1
                    have p2' : w6.cell? ⟨q, 2, none⟩ = some (.pointer none) := by rw [hW6.cell (p := ⟨q, 2, none⟩) qbl]; exact p2
                    clear oc o4 o5' o6 o14 p0 p1 p2 HS5 HE5 hb6 hW6
                    by_cases haft : o5.seen < vouched now x.ago
                    · have haft' : o5.seen / 1000000000 * 1000000000 + o5.seen % 1000000000 < vouched now x.ago / 1000000000 * 1000000000 + vouched now x.ago % 1000000000 := by omega
                      go_wp2
                      go_roundw
                      case rel =>
                        have hK := hK5.out
                        rw [if_pos ⟨(by first | rfl | trivial), Hdis.out, haft⟩] at hK
                        have q1 := HS6.out.setSeen HO5.out (by omega) (vouched now x.ago)
                        have q2 := HE6.out.three HS6.out HO5.out 4 (vouched now x.ago)
                        have hthr : three w6 o.blk 4 (vouched now x.ago) = three w6 o5.blk 4 (vouched now x.ago) := by rw [HOb.out]
                        rw [← hthr] at q1 q2
                        refine ⟨k + 1, by omega, by go_num, ?_, q2, ?_, ?_⟩
                        · rw [HL1.out, hK]; exact q1
                        · rw [HL1.out, hK]; exact after_seen HX5.out HO5.out (vouched now x.ago)
                        · rw [HL1.out, hK]
                          intro y hy
                          rcases mem_setNE hy with rfl | ⟨hy, -⟩
                          · exact ⟨vb1, vb2⟩
                          · exact HB5.out y hy
                      case measure => simp [intOf]; omega
                    · have haft' : ¬ o5.seen / 1000000000 * 1000000000 + o5.seen % 1000000000 < vouched now x.ago / 1000000000 * 1000000000 + vouched now x.ago % 1000000000 := by omega
                      go_wp2
                      go_roundw
                      case rel =>
                        have hK := hK5.out
                        rw [if_neg (by intro hq; omega)] at hK
                        refine ⟨k + 1, by omega, by go_num, ?_, HE6.out, ?_, ?_⟩
                        · rw [HL1.out, hK]; exact HS6.out
                        · rw [HL1.out, hK]; exact HX5.out
                        · rw [HL1.out, hK]; exact HB5.out
                      case measure => simp [intOf]; omega
        · have hk' : k = hs.length := by omega
          subst hk'
          go_wp2
          go_end0
          have hfin := HS.out
          rw [← HL0.out, ← Hmem.out, ← Hrp.out] at hfin
          exact ⟨rfl, ⟨g, hfin⟩, HE.out.bel⟩
end Go.Proofs.Qxb6630552a
