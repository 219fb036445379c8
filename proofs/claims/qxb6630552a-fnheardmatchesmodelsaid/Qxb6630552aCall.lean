import Derived.Test.Qxb6630552aHeard2
namespace Go.Proofs.Qxb6630552a
set_option linter.unusedVariables false
set_option linter.unusedSimpArgs false
open Go.RowKit

/-- The State behind the call, whether or not the sender is known. -/
def CallPost (N bs bm : Nat) (ft : Int) (ma : Option Addr) (mcap : Nat) (ms : List ByteArray) (L : List NE) (addr : ByteArray) (hs : List HD) (now : Int) (w' : World) : Prop :=
  match findNE L addr with
  | none => StI N w' bs bm ft ma mcap ms L
  | some e => HeardPost N bs bm ft ma mcap ms L addr e hs now w'

/-- State.Heard, whether or not the sender is known. -/
theorem heard_any {N : Nat} {w : World} {bs bm : Nat} {ft : Int} {ma : Option Addr} {mcap : Nat} {ms : List ByteArray} {L : List NE} (h : StI N w bs bm ft ma mcap ms L) (hN : N ≤ w.heap.size) (addr : ByteArray)
    (a : Option Addr) (cap hb : Nat) (C : Array Value) (hs : List HD) (now : Int) (hh : hs ≠ [] → a = some ⟨hb, 0, none⟩ ∧ w.heap[hb]? = some (.cells C 81)) (hm : ∀ W, Below N w W → SR W ma ms)
    (hn1 : -1152921504606846976 ≤ now) (hn2 : now ≤ 1152921504606846976) (hft1 : -9223372036854775808 ≤ ft) (hft2 : ft ≤ 9223372036854775807)
    (hC : ∀ k, k < hs.length → C[k * 2]? = some (.string (hdAt hs k).addr) ∧ C[k * 2 + 1]? = some (.int .i64 (hdAt hs k).ago)) (hag : ∀ k, k < hs.length → (hdAt hs k).ago ≤ 1152921504606846976) (hag2 : ∀ k, k < hs.length → -9223372036854775808 ≤ (hdAt hs k).ago) (hlen : hs.length ≤ 4096)
    (hbd : ∀ x ∈ L, inTime x.seen = true ∧ inTime x.rep = true ∧ inTime x.reping = true) :
    Calls Try.prog 32 #[.pointer (some ⟨bs, 0, none⟩), .string addr, .slice a hs.length cap, tm now] w fun e' w' => e' = .returned (.tuple #[]) ∧ CallPost N bs bm ft ma mcap ms L addr hs now w' ∧ Below N w w' := by
  unfold CallPost
  cases hf : findNE L addr with
  | none =>
    refine (heard_none h addr hf a cap hs now).mono ?_
    rintro e' w' ⟨rfl, h1, h2⟩
    exact ⟨rfl, h1, h2.mono hN⟩
  | some e =>
    have he := hbd e (findNE_mem hf)
    rw [inTime_iff, inTime_iff] at he
    refine (heard_some h hN addr e hf a cap hb C hs now hh hm hn1 hn2 he.2.1.1 he.2.1.2 hft1 hft2 hC hag hag2 hlen (fun x hx => ?_)).mono ?_
    · have := (hbd x hx).1
      rw [inTime_iff] at this
      omega
    · rintro e' w' ⟨rfl, h1, h2⟩
      exact ⟨rfl, h1, h2⟩

theorem keep25 {wr : World} {b1 b2 g i : Nat} {u0 u1 v0 v1 x0 x1 : Value} (q0 : wr.cell? ⟨b1, i, none⟩ = some u0) (q1 : wr.cell? ⟨b2, i, none⟩ = some u1) (e0 : wr.cell? ⟨g, i * 2, none⟩ = some v0) (e1 : wr.cell? ⟨g, i * 2 + 1, none⟩ = some v1) (l1 : b1 < g) (l2 : b2 < g) :
    (((wr.setCell ⟨g, i * 2, none⟩ x0).setCell ⟨g, i * 2 + 1, none⟩ x1).drew).cell? ⟨b1, i, none⟩ = some u0 ∧ (((wr.setCell ⟨g, i * 2, none⟩ x0).setCell ⟨g, i * 2 + 1, none⟩ x1).drew).cell? ⟨b2, i, none⟩ = some u1 ∧
    (∃ v, (((wr.setCell ⟨g, i * 2, none⟩ x0).setCell ⟨g, i * 2 + 1, none⟩ x1).drew).cell? ⟨g, i * 2, none⟩ = some v) ∧ (∃ v, (((wr.setCell ⟨g, i * 2, none⟩ x0).setCell ⟨g, i * 2 + 1, none⟩ x1).drew).cell? ⟨g, i * 2 + 1, none⟩ = some v) := by
  refine ⟨?_, ?_, ⟨x0, ?_⟩, ⟨x1, ?_⟩⟩
  · rw [World.cell?_drew, World.cell?_setCell_other _ _ _ _ (by intro q; have := congrArg Addr.block q; simp at this; omega), World.cell?_setCell_other _ _ _ _ (by intro q; have := congrArg Addr.block q; simp at this; omega)]; exact q0
  · rw [World.cell?_drew, World.cell?_setCell_other _ _ _ _ (by intro q; have := congrArg Addr.block q; simp at this; omega), World.cell?_setCell_other _ _ _ _ (by intro q; have := congrArg Addr.block q; simp at this; omega)]; exact q1
  · rw [World.cell?_drew, World.cell?_setCell_other _ _ _ _ (by intro q; have := congrArg Addr.off q; simp at this)]
    exact World.cell?_setCell_same' _ _ _ (by rw [e0]; rfl)
  · rw [World.cell?_drew]
    refine World.cell?_setCell_same' _ _ _ ?_
    rw [World.cell?_setCell_other _ _ _ _ (by intro q; have := congrArg Addr.off q; simp at this), e1]; rfl

set_option maxRecDepth 20000 in
set_option maxHeartbeats 2000000 in
theorem heardCall_any {N : Nat} {w : World} {bs bm : Nat} {ft : Int} {ma : Option Addr} {mcap : Nat} {ms : List ByteArray} {L : List NE} (h : StI N w bs bm ft ma mcap ms L) (hN : N ≤ w.heap.size) (addr : ByteArray)
    (a1 a2 : Option Addr) (c1 c2 : Nat) (hs : List HD) (now : Int) (hp : PR w a1 a2 hs) (hm : ∀ W, Below N w W → SR W ma ms)
    (hn1 : -1152921504606846976 ≤ now) (hn2 : now ≤ 1152921504606846976) (hft1 : -9223372036854775808 ≤ ft) (hft2 : ft ≤ 9223372036854775807)
    (hag : ∀ k, k < hs.length → (hdAt hs k).ago ≤ 1152921504606846976) (hag2 : ∀ k, k < hs.length → -9223372036854775808 ≤ (hdAt hs k).ago) (hlen : hs.length ≤ 4096)
    (hbd : ∀ x ∈ L, inTime x.seen = true ∧ inTime x.rep = true ∧ inTime x.reping = true) :
    Calls Try.prog 25 #[.pointer (some ⟨bs, 0, none⟩), .string addr, .slice a1 hs.length c1, .slice a2 hs.length c2, .int .i64 now] w fun e' w' => e' = .returned (.tuple #[]) ∧ CallPost N bs bm ft ma mcap ms L addr hs now w' ∧ Below N w w' := by
  have HS : Hid _ := h
  have Hm : Hid _ := hm
  have HA : Hid _ := hag
  have HA2 : Hid _ := hag2
  have HB : Hid _ := hbd
  clear h hm hag hag2 hbd
  have nq := neq22
  have hmk := make_any 79 81 _ 2 24 Try.underlying79 Try.info81 hs.length (by omega) (by omega)
  obtain ⟨hpm, b1, b2, hp1, hp2⟩ := hp
  have hix1 := ix22 a1 hs.length c1 b1 0 (fun q => (hp1 (by intro q2; simp [q2] at q)).1)
  have hix2 := ix51 a2 hs.length c2 b2 0 (fun q => (hp1 (by intro q2; simp [q2] at q)).2.1)
  simp only [Nat.zero_add] at hix1 hix2
  cases hna : a1.isNone
  case true =>
    have he : hs = [] := by
      by_cases e : hs = []
      · exact e
      · rw [(hp1 e).1] at hna; cases hna
    subst he
    clear hp1 hp2
    go_enter Try.func25, Try.ntmps25
    go_wp2
    refine wp_loop_once ?_
    go_wp2_with fail
    refine (atOffset_any now _ (by omega) (by omega)).mono ?_
    rintro e' w1 ⟨rfl, hb1⟩
    go_wp2_with fail
    refine (heard_any (HS.out.below hb1) (by have := hb1.size; omega) addr none 0 0 #[] [] now (fun q => (q rfl).elim) (fun W hW => Hm.out W ((hb1.mono hN).trans hW)) hn1 hn2 hft1 hft2 (fun k hk => by simp at hk) (fun k hk => by simp at hk) (fun k hk => by simp at hk) (by simp) HB.out).mono ?_
    rintro e' w2 ⟨rfl, hq, hb2⟩
    have HQ : Hid _ := hq
    clear hq
    go_wp2
    go_end0
    exact ⟨rfl, HQ.out, (hb1.mono hN).trans hb2⟩
  case false =>
    go_enter Try.func25, Try.ntmps25
    go_wp2
    go_loopw [19] (fun i wr => ∃ (k : Nat) (C : Array Value), k ≤ hs.length ∧ i = .int .i64 k ∧ Hid (C.size = hs.length * 2) ∧ Hid (∀ j, j < k → C[j * 2]? = some (.string (hdAt hs j).addr) ∧ C[j * 2 + 1]? = some (.int .i64 (hdAt hs j).ago)) ∧ Hid (wr.heap[w.heap.size]? = some (.cells C 81)) ∧ Below w.heap.size w wr) (fun i _ => hs.length - (intOf i).toNat)
    case atStart => exact ⟨0, _, Nat.zero_le _, rfl, size_madeCells _ _, fun j hj => by omega, Deep.blk_alloc_new _ _, below_alloc _ _⟩
    case round =>
      obtain ⟨k, C, hk, rfl, hC, hno, hblk, hbel⟩ := hrel
      by_cases hlt : k < hs.length
      · obtain ⟨q0, q1⟩ := hp2 k hlt
        obtain ⟨-, -, l1, l2⟩ := hp1 (by intro q; simp [q] at hlt)
        rw [← hbel.cell (p := ⟨b1, k, none⟩) l1] at q0
        rw [← hbel.cell (p := ⟨b2, k, none⟩) l2] at q1
        obtain ⟨v0, hv0⟩ : ∃ v, C[k * 2]? = some v := ⟨_, Array.getElem?_eq_getElem (show k * 2 < C.size by have := hC.out; omega)⟩
        obtain ⟨v1, hv1⟩ : ∃ v, C[k * 2 + 1]? = some v := ⟨_, Array.getElem?_eq_getElem (show k * 2 + 1 < C.size by have := hC.out; omega)⟩
        have e0 : wr.cell? ⟨w.heap.size, k * 2, none⟩ = some v0 := by rw [cell_of_block hblk.out]; exact hv0
        have e1 : wr.cell? ⟨w.heap.size, k * 2 + 1, none⟩ = some v1 := by rw [cell_of_block hblk.out]; exact hv1
        have f0 : wr.frozen? ⟨w.heap.size, k * 2, none⟩ = false := frozen_of_block hblk.out
        have f1 : wr.frozen? ⟨w.heap.size, k * 2 + 1, none⟩ = false := frozen_of_block hblk.out
        have i1 : (0 : Int) ≤ k := by omega
        have i2 : (k : Int) < hs.length := by omega
        have hix3 := ix79 (some ⟨w.heap.size, 0, none⟩) hs.length hs.length w.heap.size 0 (fun _ => rfl)
        simp only [Nat.zero_add] at hix3
        clear hp1 hp2 hv0 hv1
        go_wp2
        go_region_held3 (fun W => W.cell? ⟨b1, k, none⟩ = some (.string (hdAt hs k).addr) ∧ W.cell? ⟨b2, k, none⟩ = some (.int .i64 (hdAt hs k).ago) ∧ (∃ v, W.cell? ⟨w.heap.size, k * 2, none⟩ = some v) ∧ (∃ v, W.cell? ⟨w.heap.size, k * 2 + 1, none⟩ = some v))
          (first | exact ⟨q0, q1, ⟨_, e0⟩, ⟨_, e1⟩⟩ | exact keep25 q0 q1 e0 e1 l1 l2)
          (fail)
        go_wp2
        go_roundw
        case rel =>
          have hc := hC.out
          refine ⟨k + 1, (C.setIfInBounds (k * 2) (.string (hdAt hs k).addr)).setIfInBounds (k * 2 + 1) (.int .i64 (hdAt hs k).ago), by omega, by go_num, by show _ = _; simp [hc], fun j hj => ?_, ?_, ?_⟩
          · simp only [Array.getElem?_setIfInBounds]
            by_cases e : j = k
            · subst e; simp; omega
            · have := hno.out j (by omega)
              rw [if_neg (by omega), if_neg (by omega), if_neg (by omega), if_neg (by omega)]
              exact this
          · exact heap_setCell_same _ _ _ _ _ _ _ (heap_setCell_same _ _ _ _ _ _ _ hblk.out)
          · exact ((hbel.setCell (Nat.le_refl _) _).setCell (Nat.le_refl _) _).drew
        case measure => simp [intOf]; omega
      · have hk' : k = hs.length := by omega
        subst hk'
        clear hp1 hp2 hix1 hix2
        go_wp2_with fail
        refine (atOffset_any now _ (by omega) (by omega)).mono ?_
        rintro e' w1 ⟨rfl, hb1⟩
        have hs1 := hb1.size
        have hsr := hbel.size
        go_wp2_with fail
        refine (heard_any ((HS.out.below hbel).below hb1) (by omega) addr (some ⟨w.heap.size, 0, none⟩) hs.length w.heap.size C hs now (fun q => ⟨rfl, by rw [hb1.block _ (lt_of_block hblk.out)]; exact hblk.out⟩) (fun W hW => Hm.out W (((hbel.mono hN).trans (hb1.mono (by omega))).trans hW)) hn1 hn2 hft1 hft2 hno.out HA.out HA2.out hlen HB.out).mono ?_
        rintro e' w2 ⟨rfl, hq, hb2⟩
        have HQ : Hid _ := hq
        clear hq
        go_wp2
        go_end0
        exact ⟨rfl, HQ.out, ((hbel.mono hN).trans (hb1.mono (by omega))).trans hb2⟩

theorem call_any {N : Nat} {w : World} {bs bm : Nat} {ft : Int} {ma : Option Addr} {mcap : Nat} {ms : List ByteArray} {L : List NE} (h : StI N w bs bm ft ma mcap ms L) (hN : N ≤ w.heap.size) (addr : ByteArray)
    (a : Option Addr) (cap : Nat) (hs : List HD) (now : Int) (hp : HR w a hs) (hm : ∀ W, Below N w W → SR W ma ms)
    (hn1 : -1152921504606846976 ≤ now) (hn2 : now ≤ 1152921504606846976) (hft1 : -9223372036854775808 ≤ ft) (hft2 : ft ≤ 9223372036854775807)
    (hag : ∀ k, k < hs.length → (hdAt hs k).ago ≤ 1152921504606846976) (hag2 : ∀ k, k < hs.length → -9223372036854775808 ≤ (hdAt hs k).ago) (hlen : hs.length ≤ 4096)
    (hbd : ∀ x ∈ L, inTime x.seen = true ∧ inTime x.rep = true ∧ inTime x.reping = true) :
    Calls Try.prog 12 #[.pointer (some ⟨bs, 0, none⟩), .string addr, .slice a hs.length cap, .int .i64 now] w fun e' w' => e' = .returned (.tuple #[]) ∧ CallPost N bs bm ft ma mcap ms L addr hs now w' ∧ Below N w w' := by
  have HS : Hid _ := h
  have Hm : Hid _ := hm
  have HA : Hid _ := hag
  have HA2 : Hid _ := hag2
  have HB : Hid _ := hbd
  have HP : Hid _ := hp
  clear h hm hag hag2 hbd hp
  go_enter Try.func12, Try.ntmps12
  go_wp2_with fail
  refine (splitHeard_any a cap hs _ HP.out hlen).mono ?_
  rintro e' w1 ⟨⟨a1, c1, a2, c2, rfl, hpr⟩, hb1⟩
  have HPR : Hid _ := hpr
  clear hpr
  go_wp2_with fail
  refine (heardCall_any (HS.out.below hb1) (by have := hb1.size; omega) addr a1 a2 c1 c2 hs now HPR.out (fun W hW => Hm.out W ((hb1.mono hN).trans hW)) hn1 hn2 hft1 hft2 HA.out HA2.out hlen HB.out).mono ?_
  rintro e' w2 ⟨rfl, hq, hb2⟩
  have HQ : Hid _ := hq
  clear hq
  go_wp2
  go_end0
  exact ⟨rfl, HQ.out, (hb1.mono hN).trans hb2⟩
end Go.Proofs.Qxb6630552a
