import Derived.Test.Qxb6630623aPut
import Derived.Test.Qxb6630623aLocks
import Derived.Conc.RwLone
/- THE WALK of Find (10). -/
namespace Go.Proofs.Qxb6630623a
set_option linter.unusedVariables false
set_option linter.unusedSimpArgs false
open Go.RowKit
open Go.RwLone

theorem z59 : (Try.prog.info? 59).map (·.zero) = some (some (.pointer none)) := by kernel_rfl
theorem z30' : (Try.prog.info? 30).map (·.zero) = some (some nilS) := by kernel_rfl

/-- A slice that has no room behind its length. -/
def FV (w : World) (B : Nat) (v : Value) (zs : List Int) : Prop :=
  (v = .slice none 0 0 ∧ zs = []) ∨ ∃ g, v = .slice (some ⟨g, 0, none⟩) zs.length zs.length ∧ B ≤ g ∧ g < w.heap.size ∧ ∀ j, j < zs.length → w.cell? ⟨g, j, none⟩ = some (.int .i64 (intAt zs j))

theorem IL.cases {w : World} {B : Nat} {v : Value} {zs : List Int} (h : IL w B v zs) :
    (v = .slice none 0 0 ∧ zs = []) ∨ ∃ g cap, v = .slice (some ⟨g, 0, none⟩) zs.length cap ∧ zs.length ≤ cap ∧ B ≤ g ∧ g < w.heap.size ∧ ∀ j, j < zs.length → w.cell? ⟨g, j, none⟩ = some (.int .i64 (intAt zs j)) := by
  have hc := fun g hg => World.ownsRow.cells (g := g) h hg
  have hl := World.ownsRow.lt h
  obtain ⟨h1, h2⟩ := h
  rcases h2 with ⟨rfl, h3⟩ | ⟨g, cap, cur, rfl, h3, h4, h5, h6, h7, h8⟩
  · exact .inl ⟨rfl, List.eq_nil_of_length_eq_zero h3⟩
  · refine .inr ⟨g, cap, rfl, h5, h3, (hl g rfl).2, fun j hj => ?_⟩
    have := hc g rfl j (.int .i64 (intAt zs j)) (by simp [intAt, hj])
    have hadd : (⟨g, 0, none⟩ : Addr).add j = ⟨g, j, none⟩ := by unfold Addr.add; split <;> simp_all
    rwa [hadd] at this

def xCells1 (bp : Nat) : Array Value := #[.int .i32 0, .int .u32 0, .int .u32 0, .int .u32 0, .int .i32 1, .int .i32 0, .map (some bp)]

/-- The world behind RLock. -/
structure RLd (W w1 : World) (xb bp : Nat) (q u : ByteArray) : Prop where
  xblk : w1.heap[xb]? = some (.cells (xCells1 bp) 58 (0, 0))
  rest : ∀ b, b < W.heap.size → b ≠ xb → w1.heap[b]? = W.heap[b]?
  size : w1.heap.size = W.heap.size + 1
  p0 : w1.cell? ⟨W.heap.size, 0, none⟩ = some (.string q)
  p1 : w1.cell? ⟨W.heap.size, 1, none⟩ = some (.string u)
  os : w1.os = W.os
  tape : w1.tape = W.tape
  output : w1.output = W.output

theorem rl_facts {W w1 : World} {xb bp : Nat} {q u : ByteArray} (hx : W.heap[xb]? = some (.cells (xCells bp) 58 (0, 0)))
    (hw1 : w1 = (W.alloc (.cells #[.string q, .string u] 28)).setCell ⟨xb, 0 + 4, none⟩ (.int .i32 (wrap32 (0 + 1)))) : RLd W w1 xb bp q u := by
  have hlt : xb < W.heap.size := (Array.getElem?_eq_some_iff.1 hx).1
  have hx' : (W.alloc (.cells #[.string q, .string u] 28)).heap[xb]? = some (.cells (xCells bp) 58 (0, 0)) := (Below.heap_alloc _ _ _ hlt).trans hx
  subst hw1
  have e1 : wrap32 (0 + 1) = 1 := by simp [wrap32]
  rw [e1]
  have hn : (W.alloc (.cells #[.string q, .string u] 28)).heap[W.heap.size]? = some (.cells #[.string q, .string u] 28 (0, 0)) := heap_alloc_new W _
  have hn' : ((W.alloc (.cells #[.string q, .string u] 28)).setCell ⟨xb, 0 + 4, none⟩ (.int .i32 1)).heap[W.heap.size]? = some (.cells #[.string q, .string u] 28 (0, 0)) :=
    (Below.heap_setCell _ _ _ _ (by simp; omega)).trans hn
  refine ⟨heap_setCell_same _ _ _ _ _ _ _ hx', fun b hb hne => ?_, by simp [World.setCell], ?_, ?_, rfl, rfl, rfl⟩
  · rw [Below.heap_setCell _ _ _ _ hne]; exact Below.heap_alloc _ _ _ hb
  · rw [cell_of_row _ _ _ _ _ _ hn']; rfl
  · rw [cell_of_row _ _ _ _ _ _ hn']; rfl

/-- The world behind RUnlock. -/
theorem ru_facts {W w1 w2 w3 : World} {xb bp : Nat} {q u : ByteArray} (hx : W.heap[xb]? = some (.cells (xCells bp) 58 (0, 0))) (h : RLd W w1 xb bp q u) (h2 : w2.heap = w1.heap ∧ w2.os = w1.os ∧ w2.tape = w1.tape ∧ w2.output = w1.output)
    (hw3 : w3 = w2.setCell ⟨xb, 0 + 4, none⟩ (.int .i32 (wrap32 (1 + -1)))) : Below W.heap.size W w3 := by
  obtain ⟨a1, a2, a3, a4⟩ := h2
  have e1 : wrap32 (1 + -1) = 0 := by simp [wrap32]
  rw [e1] at hw3
  subst hw3
  refine ⟨a2.trans h.os, a3.trans h.tape, a4.trans h.output, ?_, fun b hb => ?_⟩
  · have : (w2.setCell ⟨xb, 0 + 4, none⟩ (.int .i32 0)).heap.size = w2.heap.size := by simp [World.setCell]
    rw [this, a1, h.size]; omega
  · by_cases e : b = xb
    · subst e
      rw [hx]
      have := heap_setCell_same w2 b (0 + 4) (.int .i32 0) (xCells1 bp) 58 (0, 0) (by rw [a1]; exact h.xblk)
      rw [this]; rfl
    · rw [Below.heap_setCell _ _ _ _ e, a1]; exact h.rest b hb e

def FindPost (w' : World) (B : Nat) (zs : List Int) (e : Ending) : Prop := ∃ v, e = .returned v ∧ FV w' B v zs
theorem FV.below {w w' : World} {B : Nat} {v : Value} {zs : List Int} (h : FV w B v zs) (hb : Below w.heap.size w w') : FV w' B v zs := by
  rcases h with h | ⟨g, h1, h2, h3, h4⟩
  · exact .inl h
  · exact .inr ⟨g, h1, h2, Nat.lt_of_lt_of_le h3 hb.size, fun j hj => (hb.cell (by exact h3)).trans (h4 j hj)⟩

theorem nil59 (W : World) (r : Option Addr) : (binOp .eql 59 (.pointer r) (.pointer none)).run Try.prog W = .ok (.bool r.isNone) W := by
  cases r <;> go_simp

theorem RLd.c0 {W w1 : World} {xb bp : Nat} {q u : ByteArray} (h : RLd W w1 xb bp q u) : w1.cell? ⟨xb, 0, none⟩ = some (.int .i32 0) := by rw [cell_of_row _ _ _ _ _ _ h.xblk]; rfl
theorem RLd.c2 {W w1 : World} {xb bp : Nat} {q u : ByteArray} (h : RLd W w1 xb bp q u) : w1.cell? ⟨xb, 0 + 2, none⟩ = some (.int .u32 0) := by rw [cell_of_row _ _ _ _ _ _ h.xblk]; rfl
theorem RLd.c4 {W w1 : World} {xb bp : Nat} {q u : ByteArray} (h : RLd W w1 xb bp q u) : w1.cell? ⟨xb, 0 + 4, none⟩ = some (.int .i32 1) := by rw [cell_of_row _ _ _ _ _ _ h.xblk]; rfl
theorem RLd.c6 {W w1 : World} {xb bp : Nat} {q u : ByteArray} (h : RLd W w1 xb bp q u) : w1.cell? ⟨xb, 6, none⟩ = some (.map (some bp)) := by rw [cell_of_row _ _ _ _ _ _ h.xblk]; rfl
theorem RLd.f4 {W w1 : World} {xb bp : Nat} {q u : ByteArray} (h : RLd W w1 xb bp q u) : w1.frozen? ⟨xb, 0 + 4, none⟩ = false := by unfold World.frozen?; rw [h.xblk]; rfl
theorem mdl_emp (rs : List RD) (q u : ByteArray) (n : Nat) (h : emp u = true) : mdl rs q u n = mdl rs q E0 n := by
  have : u = E0 := (sEq_iff _ _).1 h
  rw [this]

set_option maxHeartbeats 4000000 in
set_option maxRecDepth 20000 in
theorem find_any (xb bp B2 n : Nat) (rs : List RD) (q u : ByteArray) (W : World) (hx : W.heap[xb]? = some (.cells (xCells bp) 58 (0, 0))) (hbp : bp < B2) (hxb : xb < B2) (hne : bp ≠ xb)
    (hix : IX W bp B2 rs n (fun q => has (ordOf rs n) q)) :
    Calls Try.prog 10 #[.pointer (some ⟨xb, 0, none⟩), .agg #[.string q, .string u]] W fun e w' => FindPost w' B2 (mdl rs q u n) e ∧ Below W.heap.size W w' := by
  have hlt : xb < W.heap.size := (Array.getElem?_eq_some_iff.1 hx).1
  have hx' : (W.alloc (.cells #[.string q, .string u] 28)).heap[xb]? = some (.cells (xCells bp) 58 (0, 0)) := (Below.heap_alloc _ _ _ hlt).trans hx
  have c0 : (W.alloc (.cells #[.string q, .string u] 28)).cell? ⟨xb, 0, none⟩ = some (.int .i32 0) := by rw [cell_of_row _ _ _ _ _ _ hx']; rfl
  have c3 : (W.alloc (.cells #[.string q, .string u] 28)).cell? ⟨xb, 0 + 3, none⟩ = some (.int .u32 0) := by rw [cell_of_row _ _ _ _ _ _ hx']; rfl
  have c4 : (W.alloc (.cells #[.string q, .string u] 28)).cell? ⟨xb, 0 + 4, none⟩ = some (.int .i32 0) := by rw [cell_of_row _ _ _ _ _ _ hx']; rfl
  have f4 : (W.alloc (.cells #[.string q, .string u] 28)).frozen? ⟨xb, 0 + 4, none⟩ = false := by
    unfold World.frozen?
    rw [hx']; rfl
  have hup : ¬ wrap32 (0 + 1) < 0 := by simp [wrap32]
  obtain ⟨lp, hm, hd1, hd0⟩ := hix
  have hmlt := hm.lt
  have nq := nil59
  cases hdone : has (ordOf rs n) q
  · -- nobody of that id
    have hz : mdl rs q u n = [] := mdl_of_not_ord rs q u n hdone
    have hlook : look lp q = none := hd0 q hdone
    clear hd1 hd0 hx'
    go_enter_defers Try.func10, Try.ntmps10
    go_wp2_with (first
      | (go_at_call 15; refine (rlock_open Try.rwRLib xb 0 0 (.int .i32 0) (.int .u32 0) _ c0 c3 c4 f4 hup).mono ?_; rintro e w1 ⟨rfl, hw1⟩; have hR := rl_facts hx hw1; have k6 := hR.c6; have kp := hR.p0; have kq := hR.p1; have hlk := run_look (P := Try.prog) Try.underlying56 Try.underlying9 z59 (hm.of_block (hR.rest bp hmlt hne)).drew q false; rw [hlook] at hlk; simp only [Bool.false_eq_true, if_false, Option.getD_none] at hlk; clear hw1)
      | go_region)
    refine leaves_cons (f := 16) (args := #[.pointer (some ⟨xb, 0, none⟩)]) (by simp) (by simp [go_sem]) ?_
    refine (runlock_deferred Try.rwRLib xb 0 1 (.int .i32 0) (.int .u32 0) .returning (w1.drew) hR.c0 hR.c2 hR.c4 hR.f4 (by simp [wrap32])).mono ?_
    rintro e u' w3 ⟨rfl, rfl, hw3⟩
    have hbel := ru_facts (w2 := (w1.drew)) hx hR ⟨rfl, rfl, rfl, rfl⟩ hw3
    exact ⟨_, results_tmp rfl _ _ _, ⟨_, rfl, .inl ⟨rfl, hz⟩⟩, hbel⟩
  · obtain ⟨nb, hlook, hB, ve, br, lr, hnb, hve, hbr, hlr, hu⟩ := hd1 q hdone
    have hnbl : nb < W.heap.size := (Array.getElem?_eq_some_iff.1 hnb).1
    have hbrl := hlr.lt
    clear hd1 hd0 hx'
    cases hemp : emp u
    · have hemp' : u.toList.isEmpty = false := (emp_is u).trans hemp
      have hvr := hu u
      have hrm : rmdl rs q u n = mdl rs q u n := by simp [rmdl, hemp]
      rw [hrm] at hvr
      clear hu hrm
      rcases hvr.cases with ⟨hv1, hv2⟩ | ⟨g, cap, hv1, hv2, hv3, hv4, hv5⟩
      · have HV2 := mkHid hv2
        clear hv2
        go_enter_defers Try.func10, Try.ntmps10
        go_wp2_with (first
          | (go_at_call 15; refine (rlock_open Try.rwRLib xb 0 0 (.int .i32 0) (.int .u32 0) _ c0 c3 c4 f4 hup).mono ?_; rintro e w1 ⟨rfl, hw1⟩; have hR := rl_facts hx hw1; have k6 := hR.c6; have kp := hR.p0; have kq := hR.p1; have hlk := run_look (P := Try.prog) Try.underlying56 Try.underlying9 z59 (hm.of_block (hR.rest bp hmlt hne)).drew q false; rw [hlook] at hlk; simp only [Bool.false_eq_true, if_false, Option.getD_some] at hlk; have n0 : w1.cell? ⟨nb, 0, none⟩ = some ve := (by rw [cell_of_row _ _ _ _ _ _ ((hR.rest nb hnbl (by omega)).trans hnb)]; rfl); have n1 : w1.cell? ⟨nb, 1, none⟩ = some (.map (some br)) := (by rw [cell_of_row _ _ _ _ _ _ ((hR.rest nb hnbl (by omega)).trans hnb)]; rfl); have hlk2 := run_look (P := Try.prog) Try.underlying36 Try.underlying9 z30' (hlr.of_block (hR.rest br hbrl (by omega))).drew.drew u false; simp only [Bool.false_eq_true, if_false, hv1] at hlk2; clear hw1)
          | go_region)
        refine leaves_cons (f := 16) (args := #[.pointer (some ⟨xb, 0, none⟩)]) (by simp) (by simp [go_sem]) ?_
        refine (runlock_deferred Try.rwRLib xb 0 1 (.int .i32 0) (.int .u32 0) .returning (w1.drew.drew) hR.c0 hR.c2 hR.c4 hR.f4 (by simp [wrap32])).mono ?_
        rintro e u' w3 ⟨rfl, rfl, hw3⟩
        have hbel := ru_facts (w2 := (w1.drew.drew)) hx hR ⟨rfl, rfl, rfl, rfl⟩ hw3
        exact ⟨_, results_tmp rfl _ _ _, ⟨_, rfl, .inl ⟨rfl, HV2.out⟩⟩, hbel⟩
      · have HV5 := mkHid hv5
        clear hv5
        obtain ⟨N, hN⟩ : ∃ N, N = (mdl rs q u n).length := ⟨_, rfl⟩
        rw [← hN] at hv1 hv2
        have HN := mkHid hN
        clear hN hvr
        go_enter_defers Try.func10, Try.ntmps10
        go_wp2_with (first
          | (go_at_call 15; refine (rlock_open Try.rwRLib xb 0 0 (.int .i32 0) (.int .u32 0) _ c0 c3 c4 f4 hup).mono ?_; rintro e w1 ⟨rfl, hw1⟩; have hR := rl_facts hx hw1; have k6 := hR.c6; have kp := hR.p0; have kq := hR.p1; have hlk := run_look (P := Try.prog) Try.underlying56 Try.underlying9 z59 (hm.of_block (hR.rest bp hmlt hne)).drew q false; rw [hlook] at hlk; simp only [Bool.false_eq_true, if_false, Option.getD_some] at hlk; have n0 : w1.cell? ⟨nb, 0, none⟩ = some ve := (by rw [cell_of_row _ _ _ _ _ _ ((hR.rest nb hnbl (by omega)).trans hnb)]; rfl); have n1 : w1.cell? ⟨nb, 1, none⟩ = some (.map (some br)) := (by rw [cell_of_row _ _ _ _ _ _ ((hR.rest nb hnbl (by omega)).trans hnb)]; rfl); have hlk2 := run_look (P := Try.prog) Try.underlying36 Try.underlying9 z30' (hlr.of_block (hR.rest br hbrl (by omega))).drew.drew u false; simp only [Bool.false_eq_true, if_false, hv1] at hlk2; clear hw1)
          | go_region)
        refine leaves_cons (f := 16) (args := #[.pointer (some ⟨xb, 0, none⟩)]) (by simp) (by simp [go_sem]) ?_
        refine (runlock_deferred Try.rwRLib xb 0 1 (.int .i32 0) (.int .u32 0) .returning (w1.drew.drew) hR.c0 hR.c2 hR.c4 hR.f4 (by simp [wrap32])).mono ?_
        rintro e u' w3 ⟨rfl, rfl, hw3⟩
        have hbel := ru_facts (w2 := (w1.drew.drew)) hx hR ⟨rfl, rfl, rfl, rfl⟩ hw3
        exact ⟨_, results_tmp rfl _ _ _, ⟨_, rfl, .inr ⟨g, (by rw [HN.out]; rfl), hv3, Nat.lt_of_lt_of_le hv4 hbel.size, fun j hj => (hbel.cell (by exact hv4)).trans (HV5.out j hj)⟩⟩, hbel⟩
    · have hemp' : u.toList.isEmpty = true := (emp_is u).trans hemp
      have hz := mdl_emp rs q u n hemp
      rw [hz]
      have HH := mkHid hz
      clear hz
      rcases hve.cases with ⟨hv1, hv2⟩ | ⟨g, cap, hv1, hv2, hv3, hv4, hv5⟩
      · have HV2 := mkHid hv2
        clear hv2
        subst hv1
        go_enter_defers Try.func10, Try.ntmps10
        go_wp2_with (first
          | (go_at_call 15; refine (rlock_open Try.rwRLib xb 0 0 (.int .i32 0) (.int .u32 0) _ c0 c3 c4 f4 hup).mono ?_; rintro e w1 ⟨rfl, hw1⟩; have hR := rl_facts hx hw1; have k6 := hR.c6; have kp := hR.p0; have kq := hR.p1; have hlk := run_look (P := Try.prog) Try.underlying56 Try.underlying9 z59 (hm.of_block (hR.rest bp hmlt hne)).drew q false; rw [hlook] at hlk; simp only [Bool.false_eq_true, if_false, Option.getD_some] at hlk; have n0 : w1.cell? ⟨nb, 0, none⟩ = some (.slice none 0 0) := (by rw [cell_of_row _ _ _ _ _ _ ((hR.rest nb hnbl (by omega)).trans hnb)]; rfl); clear hw1)
          | go_region)
        refine leaves_cons (f := 16) (args := #[.pointer (some ⟨xb, 0, none⟩)]) (by simp) (by simp [go_sem]) ?_
        refine (runlock_deferred Try.rwRLib xb 0 1 (.int .i32 0) (.int .u32 0) .returning (w1.drew) hR.c0 hR.c2 hR.c4 hR.f4 (by simp [wrap32])).mono ?_
        rintro e u' w3 ⟨rfl, rfl, hw3⟩
        have hbel := ru_facts (w2 := (w1.drew)) hx hR ⟨rfl, rfl, rfl, rfl⟩ hw3
        exact ⟨_, results_tmp rfl _ _ _, ⟨_, rfl, .inl ⟨rfl, HV2.out⟩⟩, hbel⟩
      · have HV5 := mkHid hv5
        clear hv5
        obtain ⟨N, hN⟩ : ∃ N, N = (mdl rs q E0 n).length := ⟨_, rfl⟩
        rw [← hN] at hv1 hv2
        have HN := mkHid hN
        clear hN hve
        subst hv1
        go_enter_defers Try.func10, Try.ntmps10
        go_wp2_with (first
          | (go_at_call 15; refine (rlock_open Try.rwRLib xb 0 0 (.int .i32 0) (.int .u32 0) _ c0 c3 c4 f4 hup).mono ?_; rintro e w1 ⟨rfl, hw1⟩; have hR := rl_facts hx hw1; have k6 := hR.c6; have kp := hR.p0; have kq := hR.p1; have hlk := run_look (P := Try.prog) Try.underlying56 Try.underlying9 z59 (hm.of_block (hR.rest bp hmlt hne)).drew q false; rw [hlook] at hlk; simp only [Bool.false_eq_true, if_false, Option.getD_some] at hlk; have n0 : w1.cell? ⟨nb, 0, none⟩ = some (.slice (some ⟨g, 0, none⟩) N cap) := (by rw [cell_of_row _ _ _ _ _ _ ((hR.rest nb hnbl (by omega)).trans hnb)]; rfl); clear hw1)
          | go_region)
        refine leaves_cons (f := 16) (args := #[.pointer (some ⟨xb, 0, none⟩)]) (by simp) (by simp [go_sem]) ?_
        refine (runlock_deferred Try.rwRLib xb 0 1 (.int .i32 0) (.int .u32 0) .returning (w1.drew) hR.c0 hR.c2 hR.c4 hR.f4 (by simp [wrap32])).mono ?_
        rintro e u' w3 ⟨rfl, rfl, hw3⟩
        have hbel := ru_facts (w2 := (w1.drew)) hx hR ⟨rfl, rfl, rfl, rfl⟩ hw3
        exact ⟨_, results_tmp rfl _ _ _, ⟨_, rfl, .inr ⟨g, (by rw [HN.out]; rfl), hv3, Nat.lt_of_lt_of_le hv4 hbel.size, fun j hj => (hbel.cell (by exact hv4)).trans (HV5.out j hj)⟩⟩, hbel⟩
end Go.Proofs.Qxb6630623a
