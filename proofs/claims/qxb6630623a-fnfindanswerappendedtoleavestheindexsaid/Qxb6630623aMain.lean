import Derived.Test.Qxb6630623aBuild
import Derived.ArgAppend
/- THE WALK of the law (3). -/
namespace Go.Proofs.Qxb6630623a
set_option linter.unusedVariables false
set_option linter.unusedSimpArgs false
open Go.RowKit

/-- A slice that can be read. -/
def VL (w : World) (v : Value) (zs : List Int) : Prop :=
  ∃ a cap g, v = .slice a zs.length cap ∧ (zs.length ≠ 0 → a = some ⟨g, 0, none⟩) ∧ (zs.length ≠ 0 → g < w.heap.size) ∧ (∀ j, j < zs.length → w.cell? ⟨g, j, none⟩ = some (.int .i64 (intAt zs j))) ∧ zs.length ≤ 9223372036854775807
theorem IL.vl {w : World} {B : Nat} {v : Value} {zs : List Int} (h : IL w B v zs) : VL w v zs := by
  obtain ⟨a, cap, g, h1, h2, h3, h4, h5, h6⟩ := h.look
  exact ⟨a, cap, g, h1, h2, fun h => (h4 h).2, h3, by omega⟩
theorem FV.vl {w : World} {B : Nat} {v : Value} {zs : List Int} (h : FV w B v zs) (hl : zs.length ≤ 65536) : VL w v zs := by
  rcases h with ⟨h1, h2⟩ | ⟨g, h1, h2, h3, h4⟩
  · subst h2; exact ⟨none, 0, 0, h1, fun h => (h rfl).elim, fun h => (h rfl).elim, fun j hj => by simp at hj, by simp⟩
  · exact ⟨_, _, g, h1, fun _ => rfl, fun _ => h3, h4, by omega⟩
theorem VL.below {w w' : World} {v : Value} {zs : List Int} (h : VL w v zs) (hb : Below w.heap.size w w') : VL w' v zs := by
  obtain ⟨a, cap, g, h1, h2, h3, h4, h5⟩ := h
  exact ⟨a, cap, g, h1, h2, fun h => Nat.lt_of_lt_of_le (h3 h) hb.size, fun j hj => (hb.cell (by exact h3 (by omega))).trans (h4 j hj), h5⟩

theorem eqv_any (v0 v1 : Value) (xs : List Int) (w : World) (h0 : VL w v0 xs) (h1 : VL w v1 xs) :
    Calls Try.prog 11 #[v0, v1] w fun e w' => e = .returned (.bool true) ∧ Below w.heap.size w w' := by
  obtain ⟨a0, c0, g0, rfl, ha0, hl0, hc0, hxl⟩ := h0
  obtain ⟨a1, c1, g1, rfl, ha1, hl1, hc1, -⟩ := h1
  have hix := ix30 a0 xs.length c0 g0 ha0
  have hiy := ix30 a1 xs.length c1 g1 ha1
  clear ha0 ha1
  go_enter Try.func11, Try.ntmps11
  go_wp2
  go_loopw [5] (fun i wr => ∃ k : Nat, k ≤ xs.length ∧ i = .int .i64 k ∧ Below w.heap.size w wr) (fun i wr => xs.length - (intOf i).toNat)
  case atStart => exact ⟨0, Nat.zero_le _, rfl, Below.refl _ _⟩
  case round =>
    obtain ⟨k, hk, rfl, hb⟩ := hrel
    by_cases hlt : k < xs.length
    · have hcx : wr.cell? ⟨g0, k, none⟩ = _ := (hb.cell (by exact hl0 (by omega))).trans (hc0 k hlt)
      have hcy : wr.cell? ⟨g1, k, none⟩ = _ := (hb.cell (by exact hl1 (by omega))).trans (hc1 k hlt)
      have hx1 := hix k hlt
      have hy1 := hiy k hlt
      clear hc0 hc1
      go_wp2_with (go_region)
      go_roundw
      case rel => exact ⟨k + 1, by omega, by go_num, hb.drew⟩
      case measure => simp [intOf]; omega
    · go_wp2
      go_ret
      exact ⟨rfl, hb⟩

theorem newPatient_any (q u : ByteArray) (w : World) : Calls Try.prog 8 #[.string q, .string u] w fun e w' => e = .returned (.agg #[.string q, .string u]) ∧ Below w.heap.size w w' := by
  go_enter Try.func8, Try.ntmps8
  go_wp2
  exact bodyPost_ret (v := .agg #[.string q, .string u]) (by simp [results, Try.results8, go_sem]) rfl ⟨rfl, (Below.refl _ _).alloc (Nat.le_refl _) _⟩

theorem IX.below {w w' : World} {bp B2 : Nat} {rs : List RD} {n : Nat} {done : ByteArray → Bool} (h : IX w bp B2 rs n done) (hb : Below w.heap.size w w') : IX w' bp B2 rs n done := by
  have hl : bp < w.heap.size := by obtain ⟨lp, h1, _⟩ := h; exact h1.lt
  exact h.same (fun b _ hlt => hb.block b hlt) (hb.block bp hl)

theorem FV.grow {w : World} {B : Nat} {v : Value} {zs : List Int} (h : FV w B v zs) : ∃ ao, v = .slice ao zs.length zs.length ∧ (ao = none → zs.length = 0 ∧ zs.length = 0) ∧ (∀ b, ao = some b → ∀ j x, (ints zs)[j]? = some x → w.cell? (b.add j) = some x) := by
  rcases h with ⟨h1, h2⟩ | ⟨g, h1, h2, h3, h4⟩
  · subst h2; exact ⟨none, h1, fun _ => ⟨rfl, rfl⟩, fun b hb => by cases hb⟩
  · refine ⟨_, h1, (fun hh => by simp at hh), fun b hb j x hx => ?_⟩
    simp only [Option.some.injEq] at hb
    subst hb
    have hj : j < zs.length := by
      have := (List.getElem?_eq_some_iff.1 hx).1
      simpa [ints] using this
    have hadd : (⟨g, 0, none⟩ : Addr).add j = ⟨g, j, none⟩ := by unfold Addr.add; split <;> simp_all
    rw [hadd, h4 j hj, ← hx]
    simp [ints, intAt, hj]
theorem grown_open {w : World} {B n : Nat} {v : Value} {zs : List Int} (h : w.ownsRow B 2 1 v (n + 1) (ints zs)) :
    ∃ g cap x, v = .slice (some ⟨g, 0, none⟩) (n + 1) cap ∧ B ≤ g ∧ g < w.heap.size ∧ w.cell? ⟨g, 0, none⟩ = some (.int .i64 x) ∧ w.frozen? ⟨g, 0, none⟩ = false := by
  have hl := h.1
  have hc := fun g hg => World.ownsRow.cells (g := g) h hg
  rcases h.2 with ⟨_, h3⟩ | ⟨g, cap, cur, rfl, h3, h4, h5, h6, h7, h8⟩
  · omega
  · refine ⟨g, cap, intAt zs 0, rfl, h3, (Array.getElem?_eq_some_iff.1 h4).1, ?_, by unfold World.frozen?; rw [h4]; rfl⟩
    have hz : 0 < zs.length := by simp [ints] at hl; omega
    have := hc g rfl 0 (.int .i64 (intAt zs 0)) (by simp [ints, intAt, hz])
    rwa [Addr.add_zero'] at this
theorem keep_alloc {W : World} {p : Addr} {v : Value} {o : Obj} (h : W.cell? p = some v) : (W.alloc o).cell? p = some v := by
  have hlt : p.block < W.heap.size := World.block_lt_of_cell? W p h
  rw [World.cell?_alloc_lt _ _ _ hlt]; exact h
theorem ix30_zero (g n cap : Nat) : ∀ W, (Instr.indexAt 30 (.slice (some ⟨g, 0, none⟩) (n + 1) cap) (.int .i64 0)).run Try.prog W = .ok (.pointer (some ⟨g, 0, none⟩)) W :=
  fun W => ix30 (some ⟨g, 0, none⟩) (n + 1) cap g (fun _ => rfl) 0 (by omega) W

set_option maxRecDepth 100000 in
set_option maxHeartbeats 4000000 in
theorem main_walk (a : Option Addr) (cap : Nat) (rs : List RD) (q u : ByteArray) (w : World) (h : RR w a rs) :
    Calls Try.prog 3 #[.slice a rs.length cap, .string q, .string u] w fun e w' => e = .returned (.bool true) ∧ Below w.heap.size w w' := by
  obtain ⟨i0, hi, hz0, hz1, hz2⟩ := info_parts Try.info2
  have H := mkHid h
  clear h
  go_enter Try.func3, Try.ntmps3
  go_wp2_with (first
    | (go_at_call 4; refine (bytes_any a cap rs q u _ H.out).mono ?_; rintro e w' ⟨⟨b4, rfl⟩, hw⟩; have hw := hw.symm; subst hw)
    | (go_at_call 5; refine (tooBig_any a cap rs q u _ H.out).mono ?_; rintro e w1 ⟨⟨⟨b5, rfl⟩, hb5⟩, hbel1⟩; have HB5 := mkHid hb5; clear hb5))
  all_goals first
    | (go_ret; exact ⟨rfl, Below.refl _ _⟩)
    | (go_ret; exact ⟨rfl, hbel1⟩)
    | skip
  have hb5f : b5 = false := by assumption
  have hmax : rs.length ≤ 65536 := HB5.out (by rw [hb5f])
  clear HB5
  refine (nonDec_any a cap rs w1 (H.out.below hbel1)).mono ?_
  rintro e w2 ⟨⟨b6, rfl⟩, hbel2⟩
  have hbel2' := below_then hbel1 hbel2
  go_wp2_with (fail)
  · go_ret; exact ⟨rfl, hbel2'⟩
  refine (build_any a cap rs w2 (H.out.below hbel2') hmax).mono ?_
  rintro e w3 ⟨⟨xb, bp, B2, rfl, g1, g2, g3, g4, g5⟩, hbel3⟩
  have hbel3' := below_then hbel2' hbel3
  have G4 := mkHid g4
  have G5 := mkHid g5
  clear g4 g5
  go_wp2_with (first
    | (go_at_call 8; refine (newPatient_any q u _).mono ?_; rintro e w4 ⟨rfl, hbel4⟩; have hbel4' := below_then hbel3' hbel4))
  have hbelp : Below w.heap.size w (w4.alloc (.cells #[.string q, .string u] 28)) := hbel4'.alloc hbel4'.size _
  have hp0 := cell_of_row (w4.alloc (.cells #[.string q, .string u] 28)) w4.heap.size 0 _ _ _ (heap_alloc_new w4 (.cells #[.string q, .string u] 28))
  have hp1 := cell_of_row (w4.alloc (.cells #[.string q, .string u] 28)) w4.heap.size 1 _ _ _ (heap_alloc_new w4 (.cells #[.string q, .string u] 28))
  refine (model_any a cap rs q u _ (H.out.below hbelp) hmax).mono ?_
  rintro e w5 ⟨⟨vw, rfl, hvw⟩, hbel5⟩
  have hbel5' := below_then hbelp hbel5
  have hs5 := hbel5.size
  have ep : (w4.alloc (.cells #[.string q, .string u] 28)).heap.size = w4.heap.size + 1 := by simp
  have hc0 : w5.cell? ⟨w4.heap.size, 0, none⟩ = some (.string q) := (hbel5.cell (by show w4.heap.size < _; omega)).trans hp0
  have hc1 : w5.cell? ⟨w4.heap.size, 1, none⟩ = some (.string u) := (hbel5.cell (by show w4.heap.size < _; omega)).trans hp1
  have b35 : Below w3.heap.size w3 w5 := below_then (hbel4.alloc hbel4.size _) hbel5
  have hml := mdl_le rs q u rs.length
  have HVW := mkHid hvw.vl
  have xlt : xb < w3.heap.size := (Array.getElem?_eq_some_iff.1 G4.out).1
  clear hvw hp0 hp1
  obtain ⟨zs, hzs⟩ : ∃ zs, zs = mdl rs q u rs.length := ⟨_, rfl⟩
  rw [← hzs] at HVW hml
  have HZ := mkHid hzs
  clear hzs
  have hvwl : ∃ wa wc, vw = .slice wa zs.length wc := by obtain ⟨a1, c1, _, e1, _⟩ := HVW.out; exact ⟨a1, c1, e1⟩
  obtain ⟨wa, wcap, rfl⟩ := hvwl
  go_wp2_with (fail)
  refine (find_any xb bp B2 rs.length rs q u w5 ((b35.block xb xlt).trans G4.out) g1 g2 g3 (G5.out.below b35)).mono ?_
  rintro e w6 ⟨⟨vr, rfl, hvr⟩, hbel6⟩
  rw [← HZ.out] at hvr
  have hbel6' := below_then hbel5' hbel6
  have HVR := mkHid hvr
  clear hvr
  go_wp2_with (fail)
  refine (eqv_any vr _ zs w6 (HVR.out.vl (by omega)) (HVW.out.below hbel6)).mono ?_
  rintro e w7 ⟨rfl, hbel7⟩
  have hbel7' := below_then hbel6' hbel7
  have HVR7 := mkHid (HVR.out.below hbel7)
  obtain ⟨ao, rfl, hnone, holds⟩ := HVR7.out.grow
  have hs7 := hbel7'.size
  have hp6 : w4.heap.size < w6.heap.size := by have := hbel6.size; omega
  have hp7 : w4.heap.size < w7.heap.size := by have := hbel7.size; omega
  have hd0 : w7.cell? ⟨w4.heap.size, 0, none⟩ = some (.string q) := (hbel7.cell (by exact hp6)).trans ((hbel6.cell (by show w4.heap.size < _; omega)).trans hc0)
  have hd1 : w7.cell? ⟨w4.heap.size, 1, none⟩ = some (.string u) := (hbel7.cell (by exact hp6)).trans ((hbel6.cell (by show w4.heap.size < _; omega)).trans hc1)
  go_wp2_with (first
    | (at_builtin; refine wpList_append_grows _ rfl _ _ 30 rfl 2 i0 (.int .i64 0) 1 8 Try.underlying30 hi hz0 hz1 hz2 rfl (by decide) ao zs.length zs.length (ints zs) rfl hnone (by simp [ints]) (fun b hb j x hx => keep_alloc (holds b hb j x hx)) ⟨w7.heap.size, 0, none⟩ 1 1 [.int .i64 7] rfl rfl (cell_one_new _ _ _) (ints_oneCell .i64 [7]) (by omega) (by unfold maxLen; omega) (by omega) ?_; intro v' w8 hown8 hgrow8; have hq8 : w8.ownsRow (w7.heap.size + 1) 2 1 v' (zs.length + 1) (ints (zs ++ [7])) := (by simpa [ints] using hown8); obtain ⟨g8, c8, x8, rfl, k1, k2, k3, k4⟩ := grown_open hq8; have hz8 := ix30_zero g8 zs.length c8; have hb78 : Below w7.heap.size w7 w8 := ((Below.refl _ _).alloc (Nat.le_refl _) _).grown hgrow8 (by simp) (fun k hk => by cases hk); have e0 : w8.cell? ⟨w4.heap.size, 0, none⟩ = some (.string q) := (hb78.cell (by exact hp7)).trans hd0; have e1 : w8.cell? ⟨w4.heap.size, 1, none⟩ = some (.string u) := (hb78.cell (by exact hp7)).trans hd1; have hn8 : ¬ (w4.heap.size = g8) := (by omega); have hn8' : ¬ (g8 = w4.heap.size) := (by omega)))
  have hb79 := hb78.setCell (p := ⟨g8, 0, none⟩) (by show w7.heap.size ≤ g8; omega) (.int .i64 (bits BinOp.xor IntKind.i64 (-1) x8))
  have b57 : Below w5.heap.size w5 w7 := below_then hbel6 hbel7
  have b39 := below_then b35 (below_then b57 hb79)
  refine (find_any xb bp B2 rs.length rs q u _ ((b39.block xb xlt).trans G4.out) g1 g2 g3 (G5.out.below b39)).mono ?_
  rintro e w10 ⟨⟨vr2, rfl, hvr2⟩, hbel10⟩
  rw [← HZ.out] at hvr2
  have HVR2 := mkHid hvr2
  have b710 := below_then hb79 hbel10
  clear hvr2
  have hlen : ((zs.length + 1 : Nat) : Int) = (zs.length : Int) + 1 := by omega
  go_wp2_with (fail)
  refine (eqv_any _ _ zs w10 ((HVR7.out.below b710).vl (by omega)) (HVW.out.below (below_then b57 b710))).mono ?_
  rintro e w11 ⟨rfl, hbel11⟩
  go_wp2_with (fail)
  refine (eqv_any vr2 _ zs w11 ((HVR2.out.below hbel11).vl (by omega)) (HVW.out.below (below_then b57 (below_then b710 hbel11)))).mono ?_
  rintro e w12 ⟨rfl, hbel12⟩
  go_wp2
  go_ret
  exact ⟨rfl, below_then hbel7' (below_then b710 (below_then hbel11 hbel12))⟩
end Go.Proofs.Qxb6630623a
