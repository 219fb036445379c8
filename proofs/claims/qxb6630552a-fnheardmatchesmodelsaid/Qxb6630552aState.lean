import Derived.Test.Qxb6630552aClone
import Derived.Test.Qxb6630552aMaps
import Derived.Deep.RegionHeld3
import Derived.Deep.DrawnRows
namespace Go.Proofs.Qxb6630552a
set_option linter.unusedVariables false
set_option linter.unusedSimpArgs false
open Go.RowKit
open Go.ChangeMaps (setBlock)

/-- A node that the master knows, as it lies in memory: its key, its block, what it holds, its heard map's block, what that holds. -/
structure NE where
  key : ByteArray
  blk : Nat
  seen : Int
  rep : Int
  reping : Int
  dis : Bool
  hv : Option Nat
  hl : List (ByteArray × Int)

def findNE (L : List NE) (a : ByteArray) : Option NE := L.find? (fun e => sEq a e.key)

def nodeArr (e : NE) : Array Value := #[.int .u64 0, .int .u64 0, .string ByteArray.empty, .int .u64 0,
  .int .u64 (e.seen % 1000000000), .int .i64 (e.seen / 1000000000), .pointer none, .map e.hv,
  .int .u64 (e.rep % 1000000000), .int .i64 (e.rep / 1000000000), .pointer none,
  .int .u64 (e.reping % 1000000000), .int .i64 (e.reping / 1000000000), .pointer none, .bool e.dis, .bool false]
def hkv (l : List (ByteArray × Int)) : KV := l.map fun p => (p.1, tm p.2)
def nkv (L : List NE) : KV := L.map fun e => (e.key, .pointer (some ⟨e.blk, 0, none⟩))
def stArr (ft : Int) (ma : Option Addr) (n c bm : Nat) : Array Value := #[.int .i64 ft, .int .i64 0, .int .i64 0, .int .u64 0, .slice ma n c, .string ByteArray.empty, .int .u64 0, .map (some bm),
  .slice none 0 0, .map none, .int .u64 0, .int .u64 0, .int .i64 0, .pointer none]

def HeardAt (w : World) (e : NE) : Prop := match e.hv with | none => e.hl = [] | some b => MapIs w b (hkv e.hl)

/-- The State at block bs: its blocks lie from N on. -/
structure StI (N : Nat) (w : World) (bs bm : Nat) (ft : Int) (ma : Option Addr) (mcap : Nat) (ms : List ByteArray) (L : List NE) : Prop where
  st : w.heap[bs]? = some (.cells (stArr ft ma ms.length mcap bm) 65)
  mp : MapIs w bm (nkv L)
  nd : ∀ e ∈ L, w.heap[e.blk]? = some (.cells (nodeArr e) 72)
  hd : ∀ e ∈ L, HeardAt w e
  lobs : N ≤ bs
  lobm : N ≤ bm
  lo : ∀ e ∈ L, N ≤ e.blk ∧ e.blk ≠ bs ∧ e.hv ≠ some bm ∧ ∀ b, e.hv = some b → N ≤ b
  pw : L.Pairwise (fun x y => sEq x.key y.key = false ∧ x.blk ≠ y.blk ∧ ∀ b, x.hv = some b → y.hv ≠ some b)

theorem look_nkv (L : List NE) (a : ByteArray) : look (nkv L) a = (findNE L a).map fun e => .pointer (some ⟨e.blk, 0, none⟩) := by
  induction L with
  | nil => rfl
  | cons e L ih =>
    simp only [nkv, List.map_cons, look, findNE, List.find?_cons]
    cases h : sEq a e.key
    · simp only [Bool.false_eq_true, if_false]; exact ih
    · simp

def lookH (l : List (ByteArray × Int)) (k : ByteArray) : Option Int := (l.find? (fun p => sEq k p.1)).map (·.2)
theorem look_hkv (l : List (ByteArray × Int)) (k : ByteArray) : look (hkv l) k = (lookH l k).map tm := by
  induction l with
  | nil => rfl
  | cons e L ih =>
    simp only [hkv, List.map_cons, look, lookH, List.find?_cons]
    cases h : sEq k e.1
    · simp only [Bool.false_eq_true, if_false]; exact ih
    · simp

theorem findNE_mem {L : List NE} {a : ByteArray} {e : NE} (h : findNE L a = some e) : e ∈ L := List.mem_of_find?_eq_some h
theorem findNE_key {L : List NE} {a : ByteArray} {e : NE} (h : findNE L a = some e) : e.key = a := by
  have := List.find?_some (show L.find? (fun e => sEq a e.key) = some e from h)
  exact ((sEq_iff a e.key).1 this).symm

theorem cell_of_block {w : World} {b i : Nat} {c : Array Value} {t : TypeId} (h : w.heap[b]? = some (.cells c t)) : w.cell? ⟨b, i, none⟩ = c[i]? := by
  simp [World.cell?, h]
theorem frozen_of_block {w : World} {b i : Nat} {c : Array Value} {t : TypeId} (h : w.heap[b]? = some (.cells c t)) : w.frozen? ⟨b, i, none⟩ = false := by
  simp [World.frozen?, h]
theorem lt_of_block {w : World} {b : Nat} {o : Obj} (h : w.heap[b]? = some o) : b < w.heap.size := (Array.getElem?_eq_some_iff.1 h).1

section
variable {N : Nat} {w : World} {bs bm : Nat} {ft : Int} {ma : Option Addr} {mcap : Nat} {ms : List ByteArray} {L : List NE}

theorem StI.below {w' : World} (h : StI N w bs bm ft ma mcap ms L) (hb : Below w.heap.size w w') : StI N w' bs bm ft ma mcap ms L := by
  refine ⟨?_, h.mp.below hb h.mp.lt, fun e he => ?_, fun e he => ?_, h.lobs, h.lobm, h.lo, h.pw⟩
  · rw [hb.block bs (lt_of_block h.st)]; exact h.st
  · rw [hb.block e.blk (lt_of_block (h.nd e he))]; exact h.nd e he
  · have := h.hd e he
    unfold HeardAt at this ⊢
    cases hv : e.hv with
    | none => rw [hv] at this; exact this
    | some b => rw [hv] at this; exact MapIs.below this hb this.lt

/-- Looking a node up, in whatever world holds the State. -/
theorem StI.look (h : StI N w bs bm ft ma mcap ms L) (a : ByteArray) : (Instr.lookup 59 (.map (some bm)) (.string a) false).run Try.prog w = .ok (((findNE L a).map fun e => Value.pointer (some ⟨e.blk, 0, none⟩)).getD (.pointer none)) w := by
  have := run_look (P := Try.prog) (t := 59) (e := 66) (z := .pointer none) Try.underlying59 Try.underlying9 (by kernel_rfl) h.mp a false
  simpa [look_nkv] using this
end

theorem nodeCount_any {N : Nat} {w : World} {bs bm : Nat} {ft : Int} {ma : Option Addr} {mcap : Nat} {ms : List ByteArray} {L : List NE} (h : StI N w bs bm ft ma mcap ms L) :
    Calls Try.prog 15 #[.pointer (some ⟨bs, 0, none⟩)] w fun e w' => e = .returned (.int .i64 (L.length : Nat)) ∧ w' = w := by
  have c7 : w.cell? ⟨bs, 7, none⟩ = some (.map (some bm)) := cell_of_block h.st
  have hl := run_maplen (P := Try.prog) (t := 59) (e := 66) 3 Try.underlying59 h.mp
  have e1 : (nkv L).length = L.length := by simp [nkv]
  rw [e1] at hl
  go_enter Try.func15, Try.ntmps15
  go_wp2
  go_ret
  exact ⟨rfl, rfl⟩


/-- The facts on the State's and a node's cells. -/
theorem StI.cells {N : Nat} {w : World} {bs bm : Nat} {ft : Int} {ma : Option Addr} {mcap : Nat} {ms : List ByteArray} {L : List NE} (h : StI N w bs bm ft ma mcap ms L) :
    w.cell? ⟨bs, 0, none⟩ = some (.int .i64 ft) ∧ w.cell? ⟨bs, 3, none⟩ = some (.int .u64 0) ∧ w.cell? ⟨bs, 4, none⟩ = some (.slice ma ms.length mcap) ∧ w.cell? ⟨bs, 5, none⟩ = some (.string ByteArray.empty) ∧
    w.cell? ⟨bs, 6, none⟩ = some (.int .u64 0) ∧ w.cell? ⟨bs, 7, none⟩ = some (.map (some bm)) :=
  ⟨cell_of_block h.st, cell_of_block h.st, cell_of_block h.st, cell_of_block h.st, cell_of_block h.st, cell_of_block h.st⟩

theorem nilmap70 (W : World) (r : Option Nat) : (binOp .eql 70 (.map r) (.map none)).run Try.prog W = .ok (.bool r.isNone) W := run_eql_map_nil W 70 9 63 r Try.underlying70

theorem heardIsNil_some {N : Nat} {w : World} {bs bm : Nat} {ft : Int} {ma : Option Addr} {mcap : Nat} {ms : List ByteArray} {L : List NE} (h : StI N w bs bm ft ma mcap ms L) (a : ByteArray) (e : NE) (hf : findNE L a = some e) :
    Calls Try.prog 27 #[.pointer (some ⟨bs, 0, none⟩), .string a] w fun e' w' => e' = .returned (.bool e.hv.isNone) ∧ w' = w := by
  have c7 : w.cell? ⟨bs, 7, none⟩ = some (.map (some bm)) := cell_of_block h.st
  have hlk := h.look a
  rw [hf] at hlk
  simp only [Option.map_some, Option.getD_some] at hlk
  have n7 : w.cell? ⟨e.blk, 7, none⟩ = some (.map e.hv) := cell_of_block (h.nd e (findNE_mem hf))
  have hn := nilmap70
  clear hf h
  go_enter Try.func27, Try.ntmps27
  go_wp2
  go_ret
  exact ⟨rfl, rfl⟩

theorem heardLen_some {N : Nat} {w : World} {bs bm : Nat} {ft : Int} {ma : Option Addr} {mcap : Nat} {ms : List ByteArray} {L : List NE} (h : StI N w bs bm ft ma mcap ms L) (a : ByteArray) (e : NE) (hf : findNE L a = some e) :
    Calls Try.prog 30 #[.pointer (some ⟨bs, 0, none⟩), .string a] w fun e' w' => e' = .returned (.int .i64 (e.hl.length : Nat)) ∧ w' = w := by
  have c7 : w.cell? ⟨bs, 7, none⟩ = some (.map (some bm)) := cell_of_block h.st
  have hlk := h.look a
  rw [hf] at hlk
  simp only [Option.map_some, Option.getD_some] at hlk
  have n7 : w.cell? ⟨e.blk, 7, none⟩ = some (.map e.hv) := cell_of_block (h.nd e (findNE_mem hf))
  have hh := h.hd e (findNE_mem hf)
  unfold HeardAt at hh
  have hlen : (Builtin.len_ #[70] 3 #[.map e.hv]).run Try.prog w = .ok (.int .i64 (e.hl.length : Nat)) w := by
    cases hv : e.hv with
    | none =>
      rw [hv] at hh
      simp only at hh
      rw [hh]
      exact run_maplen_nil 3 Try.underlying70 w
    | some b =>
      rw [hv] at hh
      have := run_maplen (P := Try.prog) (t := 70) (e := 63) 3 Try.underlying70 hh
      simpa [hkv] using this
  clear hf h hh
  go_enter Try.func30, Try.ntmps30
  go_wp2
  go_ret
  exact ⟨rfl, rfl⟩

theorem heardAt_some {N : Nat} {w : World} {bs bm : Nat} {ft : Int} {ma : Option Addr} {mcap : Nat} {ms : List ByteArray} {L : List NE} (h : StI N w bs bm ft ma mcap ms L) (a k : ByteArray) (e : NE) (hf : findNE L a = some e) (hr : ∀ t, lookH e.hl k = some t → -2305843009213693952 ≤ t ∧ t ≤ 2305843009213693952) :
    Calls Try.prog 29 #[.pointer (some ⟨bs, 0, none⟩), .string a, .string k] w fun e' w' => e' = .returned (.tuple #[.int .i64 ((lookH e.hl k).getD 0), .bool (lookH e.hl k).isSome]) ∧ Below w.heap.size w w' := by
  have c7 : w.cell? ⟨bs, 7, none⟩ = some (.map (some bm)) := cell_of_block h.st
  have hlk := h.look a
  rw [hf] at hlk
  simp only [Option.map_some, Option.getD_some] at hlk
  have n7 : w.cell? ⟨e.blk, 7, none⟩ = some (.map e.hv) := cell_of_block (h.nd e (findNE_mem hf))
  have hh := h.hd e (findNE_mem hf)
  unfold HeardAt at hh
  have hl2 : (Instr.lookup 70 (.map e.hv) (.string k) true).run Try.prog w = .ok (.tuple #[tm ((lookH e.hl k).getD 0), .bool (lookH e.hl k).isSome]) w := by
    cases hv : e.hv with
    | none =>
      rw [hv] at hh
      simp only at hh
      rw [hh]
      exact run_look_nil (z := tm 0) Try.underlying70 Try.underlying9 (by kernel_rfl) k true w
    | some b =>
      rw [hv] at hh
      have := run_look (P := Try.prog) (t := 70) (e := 63) (z := tm 0) Try.underlying70 Try.underlying9 (by kernel_rfl) hh k true
      rw [this, look_hkv]
      cases lookH e.hl k <;> simp
  have hb : -2305843009213693952 ≤ (lookH e.hl k).getD 0 ∧ (lookH e.hl k).getD 0 ≤ 2305843009213693952 := by
    cases hx : lookH e.hl k with
    | none => simp
    | some t => simpa using hr t hx
  obtain ⟨hb1, hb2⟩ := hb
  generalize (lookH e.hl k).getD 0 = t at *
  generalize (lookH e.hl k).isSome = ok at *
  unfold tm at hl2
  clear hf h hh hr
  go_enter Try.func29, Try.ntmps29
  go_wp2_with (go_at_call 26; refine (offsetOf_any t _ (by omega) (by omega)).mono ?_; rintro e w1 ⟨rfl, hb1⟩)
  go_ret2
  exact ⟨rfl, below_then (below_alloc _ _) hb1⟩

theorem offsetOf_core (wl ex : Int) (w : World) (h0 : 0 ≤ wl) (h1 : wl < 1000000000) (h2 : -2399999999 ≤ ex) (h3 : ex ≤ 2399999998) :
    Calls Try.prog 26 #[.agg #[.int .u64 wl, .int .i64 ex, .pointer none]] w fun e w' => e = .returned (.int .i64 (ex * 1000000000 + wl)) ∧ Below w.heap.size w w' := by
  have h := offsetOf_any (ex * 1000000000 + wl) w (by omega) (by omega)
  have e1 : (ex * 1000000000 + wl) % 1000000000 = wl := by omega
  have e2 : (ex * 1000000000 + wl) / 1000000000 = ex := by omega
  unfold tm at h
  rw [e1, e2] at h
  exact h

theorem held17 {w W w1 : World} {b : Nat} {v4 v5 v6 v8 v9 v10 v11 v12 v13 v14 : Value} (hb : Below W.heap.size W w1) (hW : Below w.heap.size w W)
    (n4 : w.cell? ⟨b, 4, none⟩ = some v4) (n5 : w.cell? ⟨b, 5, none⟩ = some v5) (n6 : w.cell? ⟨b, 6, none⟩ = some v6) (n8 : w.cell? ⟨b, 8, none⟩ = some v8) (n9 : w.cell? ⟨b, 9, none⟩ = some v9) (n10 : w.cell? ⟨b, 10, none⟩ = some v10)
    (n11 : w.cell? ⟨b, 11, none⟩ = some v11) (n12 : w.cell? ⟨b, 12, none⟩ = some v12) (n13 : w.cell? ⟨b, 13, none⟩ = some v13) (n14 : w.cell? ⟨b, 14, none⟩ = some v14) (hlt : b < w.heap.size) :
    Below w.heap.size w w1 ∧ w1.cell? ⟨b, 4, none⟩ = some v4 ∧ w1.cell? ⟨b, 5, none⟩ = some v5 ∧ w1.cell? ⟨b, 6, none⟩ = some v6 ∧ w1.cell? ⟨b, 8, none⟩ = some v8 ∧ w1.cell? ⟨b, 9, none⟩ = some v9 ∧ w1.cell? ⟨b, 10, none⟩ = some v10 ∧
    w1.cell? ⟨b, 11, none⟩ = some v11 ∧ w1.cell? ⟨b, 12, none⟩ = some v12 ∧ w1.cell? ⟨b, 13, none⟩ = some v13 ∧ w1.cell? ⟨b, 14, none⟩ = some v14 := by
  have h := below_then hW hb
  refine ⟨h, ?_, ?_, ?_, ?_, ?_, ?_, ?_, ?_, ?_, ?_⟩ <;> (rw [h.cell (by exact hlt)]; assumption)

theorem nodeOf_some {N : Nat} {w : World} {bs bm : Nat} {ft : Int} {ma : Option Addr} {mcap : Nat} {ms : List ByteArray} {L : List NE} (h : StI N w bs bm ft ma mcap ms L) (a : ByteArray) (e : NE) (hf : findNE L a = some e)
    (h1 : -2305843009213693952 ≤ e.seen) (h2 : e.seen ≤ 2305843009213693952) (h3 : -2305843009213693952 ≤ e.rep) (h4 : e.rep ≤ 2305843009213693952) (h5 : -2305843009213693952 ≤ e.reping) (h6 : e.reping ≤ 2305843009213693952) :
    Calls Try.prog 17 #[.pointer (some ⟨bs, 0, none⟩), .string a] w fun e' w' => e' = .returned (.tuple #[.bool true, .int .i64 e.seen, .int .i64 e.rep, .int .i64 e.reping, .bool e.dis]) ∧ Below w.heap.size w w' := by
  have c7 : w.cell? ⟨bs, 7, none⟩ = some (.map (some bm)) := cell_of_block h.st
  have hlk := h.look a
  rw [hf] at hlk
  simp only [Option.map_some, Option.getD_some] at hlk
  have hblk := h.nd e (findNE_mem hf)
  have hlt := lt_of_block hblk
  have n4 : w.cell? ⟨e.blk, 4, none⟩ = some (.int .u64 (e.seen % 1000000000)) := cell_of_block hblk
  have n5 : w.cell? ⟨e.blk, 5, none⟩ = some (.int .i64 (e.seen / 1000000000)) := cell_of_block hblk
  have n6 : w.cell? ⟨e.blk, 6, none⟩ = some (.pointer none) := cell_of_block hblk
  have n8 : w.cell? ⟨e.blk, 8, none⟩ = some (.int .u64 (e.rep % 1000000000)) := cell_of_block hblk
  have n9 : w.cell? ⟨e.blk, 9, none⟩ = some (.int .i64 (e.rep / 1000000000)) := cell_of_block hblk
  have n10 : w.cell? ⟨e.blk, 10, none⟩ = some (.pointer none) := cell_of_block hblk
  have n11 : w.cell? ⟨e.blk, 11, none⟩ = some (.int .u64 (e.reping % 1000000000)) := cell_of_block hblk
  have n12 : w.cell? ⟨e.blk, 12, none⟩ = some (.int .i64 (e.reping / 1000000000)) := cell_of_block hblk
  have n13 : w.cell? ⟨e.blk, 13, none⟩ = some (.pointer none) := cell_of_block hblk
  have n14 : w.cell? ⟨e.blk, 14, none⟩ = some (.bool e.dis) := cell_of_block hblk
  clear hblk hf h
  go_enter Try.func17, Try.ntmps17
  go_wp2
  go_region_held3 (fun W => Below w.heap.size w W ∧ W.cell? ⟨e.blk, 4, none⟩ = some (.int .u64 (e.seen % 1000000000)) ∧ W.cell? ⟨e.blk, 5, none⟩ = some (.int .i64 (e.seen / 1000000000)) ∧ W.cell? ⟨e.blk, 6, none⟩ = some (.pointer none) ∧
      W.cell? ⟨e.blk, 8, none⟩ = some (.int .u64 (e.rep % 1000000000)) ∧ W.cell? ⟨e.blk, 9, none⟩ = some (.int .i64 (e.rep / 1000000000)) ∧ W.cell? ⟨e.blk, 10, none⟩ = some (.pointer none) ∧
      W.cell? ⟨e.blk, 11, none⟩ = some (.int .u64 (e.reping % 1000000000)) ∧ W.cell? ⟨e.blk, 12, none⟩ = some (.int .i64 (e.reping / 1000000000)) ∧ W.cell? ⟨e.blk, 13, none⟩ = some (.pointer none) ∧
      W.cell? ⟨e.blk, 14, none⟩ = some (.bool e.dis))
    (first | exact ⟨(Below.refl _ _).drew, n4, n5, n6, n8, n9, n10, n11, n12, n13, n14⟩ | exact held17 hb1 (And.left (by assumption)) n4 n5 n6 n8 n9 n10 n11 n12 n13 n14 hlt)
    (first
      | (go_at_call 26; refine (offsetOf_core _ _ _ (by omega) (by omega) (by omega) (by omega)).mono ?_; rintro e' w1 ⟨rfl, hb1⟩))
  go_wp2
  have hbel := And.left (by assumption)
  refine bodyPost_ret (v := .tuple #[.bool true, .int .i64 e.seen, .int .i64 e.rep, .int .i64 e.reping, .bool e.dis]) ?_ rfl ⟨rfl, hbel⟩
  have q1 : e.seen / 1000000000 * 1000000000 + e.seen % 1000000000 = e.seen := by omega
  have q2 : e.rep / 1000000000 * 1000000000 + e.rep % 1000000000 = e.rep := by omega
  have q3 : e.reping / 1000000000 * 1000000000 + e.reping % 1000000000 = e.reping := by omega
  simp [results, Try.results17, go_sem, q1, q2, q3]
end Go.Proofs.Qxb6630552a
