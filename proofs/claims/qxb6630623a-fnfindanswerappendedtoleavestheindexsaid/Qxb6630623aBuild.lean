import Derived.Test.Qxb6630623aIdx
import Derived.Deep.DeepCutAuto
import Derived.Deep.RegionHeld3
/- THE WALK of zzBuild (7). -/
namespace Go.Proofs.Qxb6630623a
set_option linter.unusedVariables false
set_option linter.unusedSimpArgs false
open Go.RowKit

theorem z30 : (Try.prog.info? 30).map (·.zero) = some (some nilS) := by kernel_rfl
theorem z36 : (Try.prog.info? 36).map (·.zero) = some (some (.map none)) := by kernel_rfl
theorem z39 : (Try.prog.info? 39).map (·.zero) = some (some nilS) := by kernel_rfl
theorem nilmap36 (W : World) (r : Option Nat) : (binOp .eql 36 (.map r) (.map none)).run Try.prog W = .ok (.bool r.isNone) W := run_eql_map_nil W 36 9 30 r Try.underlying36

def S1 (w0 w : World) (bE bR bO : Nat) (rs : List RD) (k : Nat) (ov : Value) : Prop :=
  ∃ own lE lR lO hO, ST w0 w own bE bR bO rs k k k k ov lE lR lO hO

theorem Rw.il {w : World} {own : Nat → Tag} {B : Nat} {t : Tag} {v : Value} {zs : List Int} (h : Rw w own B 2 t v (ints zs)) : IL w B v zs := by
  have := h.1; unfold IL; simpa [ints] using this
theorem Rw.sl {w : World} {own : Nat → Tag} {B : Nat} {t : Tag} {v : Value} {ss : List ByteArray} (h : Rw w own B 9 t v (strs ss)) : SL w B v ss := by
  have := h.1; unfold SL; simpa [strs] using this

/-- The start. -/
theorem S1_start (w : World) (rs : List RD) : S1 w (((w.alloc (.map #[] 0)).alloc (.map #[] 0)).alloc (.map #[] 0)) w.heap.size (w.heap.size + 1) (w.heap.size + 2) rs 0 (.slice none 0 0) := by
  have m0 : MapIs (((w.alloc (.map #[] 0)).alloc (.map #[] 0)).alloc (.map #[] 0)) w.heap.size [] := ((MapIs.made w).alloc _).alloc _
  have m1 : MapIs (((w.alloc (.map #[] 0)).alloc (.map #[] 0)).alloc (.map #[] 0)) (w.heap.size + 1) [] := by
    have := (MapIs.made (w.alloc (.map #[] 0))).alloc (.map #[] 0)
    simpa using this
  have m2 : MapIs (((w.alloc (.map #[] 0)).alloc (.map #[] 0)).alloc (.map #[] 0)) (w.heap.size + 2) [] := by
    have := MapIs.made ((w.alloc (.map #[] 0)).alloc (.map #[] 0))
    simpa using this
  obtain ⟨lE, gE⟩ := Grp_made (((w.alloc (.map #[] 0)).alloc (.map #[] 0)).alloc (.map #[] 0)) w (fun b => if b = w.heap.size then tE else if b = w.heap.size + 1 then tR else tO) w.heap.size 2 tE tEl w.heap.size (by simp) (Nat.le_refl _) m0
  obtain ⟨lO, gO⟩ := Grp_made (((w.alloc (.map #[] 0)).alloc (.map #[] 0)).alloc (.map #[] 0)) w (fun b => if b = w.heap.size then tE else if b = w.heap.size + 1 then tR else tO) w.heap.size 9 tO tOl (w.heap.size + 2) (by simp) (by omega) m2
  refine ⟨_, lE, [], lO, _, ⟨gE, ⟨by simp, by omega, m1, fun q => .inl ⟨rfl, rfl, fun r => ?_⟩⟩, gO, ⟨World.ownsRow_nil _ _ _ _, fun c hc => by cases hc⟩, ?_⟩⟩
  · simp [RG, rmdl, mdl, ints]
  · have q : Below w.heap.size w w := Below.refl _ _
    exact ((q.alloc (Nat.le_refl _) _).alloc (by simp) _).alloc (by simp; omega) _

def R2 (w0 w1 : World) (own : Nat → Tag) (t : Tag) (zs : List Int) (v : Value) (wc : World) : Prop :=
  Chg own (updOwn own w1.heap.size t) w1 wc (fun x => x = t) ∧ Rw wc (updOwn own w1.heap.size t) w0.heap.size 2 t v (ints zs) ∧ Below w0.heap.size w0 wc
def R1 (w0 wc : World) (bE bR bO : Nat) (rs : List RD) (k : Nat) (ov : Value) (lE lR lO : KV) (hO : ByteArray → Bool) : Prop := ∃ own, ST w0 wc own bE bR bO rs (k + 1) k k k ov lE lR lO hO

def R3 (w0 wc : World) (bE bR bO : Nat) (rs : List RD) (k : Nat) (ov : Value) (lE lO : KV) (hO : ByteArray → Bool) (m : Value) : Prop :=
  ∃ own lR b, m = .map (some b) ∧ (look lR (rdAt rs k).pat).getD (.map none) = .map (some b) ∧ ST w0 wc own bE bR bO rs (k + 1) (k + 1) k k ov lE lR lO hO
def R4 (w0 wc : World) (bE bR bO : Nat) (rs : List RD) (k : Nat) (ov : Value) (lE lR : KV) (b : Nat) (lm : KV) : Prop :=
  ∃ own lO hO, ST w0 wc own bE bR bO rs (k + 1) (k + 1) (k + 1) k ov lE lR lO hO ∧ GrpAt wc own w0.heap.size 2 (tM (rdAt rs k).pat) (tMl (rdAt rs k).pat) b (RG rs k (rdAt rs k).pat) (fun r => has (RO rs k (rdAt rs k).pat) r) lm
theorem PR.isMap {w : World} {own : Nat → Tag} {B bR : Nat} {RO : ByteArray → List ByteArray} {RG : ByteArray → ByteArray → List Value} {l : KV} (h : PR w own B bR RO RG l) (q : ByteArray) : ∃ r, (look l q).getD (.map none) = .map r := by
  rcases h.2.2.2 q with ⟨e, _⟩ | ⟨b, e, _⟩
  · exact ⟨_, e⟩
  · exact ⟨_, e⟩
theorem PR.grp {w : World} {own : Nat → Tag} {B bR b : Nat} {RO : ByteArray → List ByteArray} {RG : ByteArray → ByteArray → List Value} {l : KV} {q : ByteArray} (h : PR w own B bR RO RG l) (hq : (look l q).getD (.map none) = .map (some b)) :
    Grp w own B 2 (tM q) (tMl q) b (RG q) (fun r => has (RO q) r) := by
  rcases h.2.2.2 q with ⟨e, _⟩ | ⟨b', e, g⟩
  · rw [e] at hq; cases hq
  · rw [e] at hq; cases hq; exact g
theorem snoc_new {zs : List Int} {e : Int} (h : lastIs zs e = false) : ints (snocNew zs e) = ints zs ++ [.int .i64 e] := by simp [snocNew, h, ints]
theorem snoc_keep {zs : List Int} {e : Int} (h : lastIs zs e = true) : ints (snocNew zs e) = ints zs := by simp [snocNew, h]
theorem str_oneCell (s : ByteArray) : ∀ u ∈ [Value.string s], u.oneCell' = true := by
  intro u hu; simp at hu; subst hu; rfl
theorem ord_new (rs : List RD) (k : Nat) (h : has (ordOf rs k) (rdAt rs k).pat = false) : strs (ordOf rs (k + 1)) = strs (ordOf rs k) ++ [.string (rdAt rs k).pat] := by
  simp [ordOf, h, strs]
theorem ord_keep {w0 w : World} {own : Nat → Tag} {bE bR bO : Nat} {rs : List RD} {k kE kO kR : Nat} {ov : Value} {lE lR lO : KV} {hO : ByteArray → Bool} (hh : has (ordOf rs k) (rdAt rs k).pat = true)
    (h : ST w0 w own bE bR bO rs k kE kO kR ov lE lR lO hO) : ST w0 w own bE bR bO rs (k + 1) kE kO kR ov lE lR lO hO :=
  ⟨h.e, h.r, h.o, by have : ordOf rs (k + 1) = ordOf rs k := by simp [ordOf, hh]
                     rw [this]; exact h.l, h.bel⟩

theorem keep_put {W : World} {p : Addr} {v : Value} {b : Nat} {k : ByteArray} {u : Value} (h : W.cell? p = some v) : (putMap W b k u).cell? p = some v := by
  by_cases e : p.block = b
  · subst e
    unfold putMap
    split
    · rename_i hq; unfold World.cell? at h; rw [hq] at h; cases h
    · exact h
  · unfold World.cell? at h ⊢
    rw [heap_putMap_other _ _ _ _ _ e]; exact h
/-- What zzBuild hands back. -/
def BuildPost (rs : List RD) (n : Nat) (e : Ending) (w' : World) : Prop :=
  ∃ xb bp B2, e = .returned (.pointer (some ⟨xb, 0, none⟩)) ∧ bp < B2 ∧ xb < B2 ∧ bp ≠ xb ∧ w'.heap[xb]? = some (.cells (xCells bp) 58 (0, 0)) ∧ IX w' bp B2 rs n (fun q => has (ordOf rs n) q)
theorem below_alloc_simp {B : Nat} {w W : World} {o : Obj} (h : Below B w W) (hB : B ≤ W.heap.size) : Below B w (W.alloc o) := h.alloc hB o
theorem below_drew_simp {B : Nat} {w W : World} (h : Below B w W) : Below B w W.drew := h.drew
attribute [local go_sem] below_drew_simp

set_option maxRecDepth 100000 in
set_option maxHeartbeats 4000000 in
theorem build_any (a : Option Addr) (cap : Nat) (rs : List RD) (w : World) (h : RR w a rs) (hmax : rs.length ≤ 65536) :
    Calls Try.prog 7 #[.slice a rs.length cap] w fun e w' => BuildPost rs rs.length e w' ∧ Below w.heap.size w w' := by
  obtain ⟨hm, b, off, ha, hcell⟩ := h
  have hix := ix22 a rs.length cap b off (fun h => (ha (by intro e; simp [e] at h)).1)
  have hb0 : rs ≠ [] → b < w.heap.size := fun h => (ha h).2
  clear ha
  obtain ⟨i0, hi, hz0, hz1, hz2⟩ := info_parts Try.info2
  obtain ⟨j0, ji, jz0, jz1, jz2⟩ := info_parts Try.info9
  have hmm := @run_makeMap Try.prog
  go_enter Try.func7, Try.ntmps7
  go_wp2
  go_loopw [6, 7] (fun o i wr => ∃ k : Nat, k ≤ rs.length ∧ i = .int .i64 k ∧ Hid (S1 w wr w.heap.size (w.heap.size + 1) (w.heap.size + 2) rs k o)) (fun o i wr => rs.length - (intOf i).toNat)
  case atStart => exact ⟨0, Nat.zero_le _, rfl, S1_start w rs⟩
  case round =>
    obtain ⟨k, hk, rfl, hS⟩ := hrel
    by_cases hlt : k < rs.length
    · obtain ⟨own, lE, lR, lO, hO, hST⟩ := hS.out
      clear hS hmm
      have HST := mkHid hST
      have hbl := hb0 (by intro e; simp [e] at hlt)
      have d0 : wr.cell? ⟨b, off + k * 3, none⟩ = _ := (hST.bel.cell (by exact hbl)).trans (hcell k hlt).1
      have d1 : wr.cell? ⟨b, off + k * 3 + 1, none⟩ = _ := (hST.bel.cell (by exact hbl)).trans (hcell k hlt).2.1
      have hx1 := hix k hlt
      obtain ⟨v, hv⟩ : ∃ v, v = (look lE (rdAt rs k).pat).getD nilS := ⟨_, rfl⟩
      have hlk := run_look (P := Try.prog) Try.underlying36 Try.underlying9 z30 hST.e.2.2.1 (rdAt rs k).pat true
      rw [(hST.e.2.2.2 (rdAt rs k).pat).2, ← hv] at hlk
      simp only [if_true, EH] at hlk
      have HV := mkHid hv
      have hsz := hST.bel.size
      have hol := ordOf_le rs k
      have HC := mkHid hcell
      clear hcell hix hv hST
      go_upto_if 49 with (fail)
      go_cut [6, 11] (fun o' s11 wc => Hid (R1 w wc w.heap.size (w.heap.size + 1) (w.heap.size + 2) rs k o' lE lR lO hO))
      case first =>
        cases hsn : has (ordOf rs k) (rdAt rs k).pat
        · go_wp2_with (first | (at_builtin; refine wpList_append_own_at _ rfl _ _ 39 rfl w.heap.size 9 j0 (.string ByteArray.empty) 1 16 Try.underlying39 ji jz0 jz1 jz2 rfl (by decide) _ _ _ rfl (World.ownsRow.alloc HST.out.l.1 _) ⟨wr.heap.size, 0, none⟩ 1 1 [.string (rdAt rs k).pat] rfl rfl (cell_one_new _ _ _) (str_oneCell _) (by simp only [strs, List.length_map, maxLen]; omega) (by simp only [strs, List.length_map]; omega) (by simp; omega) ?_; intro v' w1 hown' hgrow hnil hloc))
          go_meet
          case rel =>
            obtain ⟨q1, q2, q3⟩ := app_facts HST.out.l HST.out.bel hown' hgrow hloc
            exact ⟨_, HST.out.order q1 (by rw [ord_new rs k hsn]; exact q2) q3⟩
        · go_wp2
          go_meet
          case rel => exact ⟨own, ord_keep hsn HST.out⟩
      case rest =>
        obtain ⟨own1, hST1⟩ := hcut.out
        clear hcut HST d0 d1 hlk
        have HST1 := mkHid hST1
        have hRw := (hST1.e.2.2.2 (rdAt rs k).pat).1
        rw [← HV.out] at hRw
        have HRw := mkHid hRw
        clear hRw
        have hil := HRw.out.il
        obtain ⟨va, vc, vg, hve, hva, hvcell, -, -, -⟩ := hil.look
        subst hve
        have hml := mdl_le rs (rdAt rs k).pat E0 k
        have hx3 : ∀ W, 0 < (mdl rs (rdAt rs k).pat E0 k).length → (Instr.indexAt 30 (.slice va (mdl rs (rdAt rs k).pat E0 k).length vc) (.int .i64 (((mdl rs (rdAt rs k).pat E0 k).length : Int) - 1))).run Try.prog W = .ok (.pointer (some ⟨vg, (mdl rs (rdAt rs k).pat E0 k).length - 1, none⟩)) W := by
          intro W hpos
          have e : (((mdl rs (rdAt rs k).pat E0 k).length : Int) - 1) = (((mdl rs (rdAt rs k).pat E0 k).length - 1 : Nat) : Int) := by omega
          rw [e]; exact ix30 va _ vc vg hva _ (by omega) W
        have hcl : 0 < (mdl rs (rdAt rs k).pat E0 k).length → wc.cell? ⟨vg, (mdl rs (rdAt rs k).pat E0 k).length - 1, none⟩ = _ := fun hpos => hvcell ((mdl rs (rdAt rs k).pat E0 k).length - 1) (by omega)
        clear hvcell hva hil hST1
        obtain ⟨zs, hzs⟩ : ∃ zs, zs = mdl rs (rdAt rs k).pat E0 k := ⟨_, rfl⟩
        rw [← hzs] at hx3 hcl hml HV HRw ⊢
        have HZ := mkHid hzs
        clear hzs
        go_upto_region 13 with (fail)
        go_cut [66, 10] (fun s s10 wc' => s = .bool (!lastIs zs (rdAt rs k).ev) ∧ s10 = .slice va zs.length vc ∧ wc' = wc)
        case first =>
          by_cases hpos : 0 < zs.length
          · have hx3' := fun W => hx3 W hpos
            have hcl' := hcl hpos
            clear hx3 hcl
            have HL := mkHid (last_eq zs (by omega) (rdAt rs k).ev)
            have hne0 : ¬ (zs.length = 0) := by omega
            have hne1 : ((zs.length : Int) == 0) = false := by simp [hne0]
            cases hle : (intAt zs (zs.length - 1) == (rdAt rs k).ev)
            · have hle' : (intAt zs (zs.length - 1) != (rdAt rs k).ev) = true := by simp [bne, hle]
              go_wp2
              go_meet
              case rel => exact ⟨by rw [HL.out, hle]; rfl, by first | rfl | simp_all, rfl⟩
            · have hle' : (intAt zs (zs.length - 1) != (rdAt rs k).ev) = false := by simp [bne, hle]
              go_wp2
              go_meet
              case rel => exact ⟨by rw [HL.out, hle]; rfl, by first | rfl | simp_all, rfl⟩
          · have e0 : zs.length = 0 := by omega
            have HL : Hid (lastIs zs (rdAt rs k).ev = false) := mkHid (by simp [lastIs, e0])
            clear hx3 hcl
            have HE0 := mkHid e0
            go_wp2
            go_meet
            case rel => exact ⟨by rw [HL.out]; rfl, by rw [HE0.out], rfl⟩
        case rest =>
          obtain ⟨rfl, rfl, hwc⟩ := hcut
          have hwc := hwc.symm
          subst hwc
          clear hx3 hcl
          have hw1 := HST1.out.bel.size
          go_upto_if 66 with (fail)
          go_cut [10] (fun s wc' => Hid (R2 w wc own1 (tEl (rdAt rs k).pat) (snocNew zs (rdAt rs k).ev) s wc'))
          case first =>
            cases hls : lastIs zs (rdAt rs k).ev
            · go_wp2_with (first | (at_builtin; refine wpList_append_own_at _ rfl _ _ 30 rfl w.heap.size 2 i0 (.int .i64 0) 1 8 Try.underlying30 hi hz0 hz1 hz2 rfl (by decide) _ _ _ rfl (World.ownsRow.alloc HRw.out.1 _) ⟨wc.heap.size, 0, none⟩ 1 1 [.int .i64 (rdAt rs k).ev] rfl rfl (cell_one_new _ _ _) (ints_oneCell .i64 [(rdAt rs k).ev]) (by simp only [EG, ints, List.length_map, maxLen, ← HZ.out]; omega) (by simp only [EG, ints, List.length_map, ← HZ.out]; omega) (by simp; omega) ?_; intro v' w1 hown' hgrow hnil hloc))
              go_meet
              case rel =>
                obtain ⟨q1, q2, q3⟩ := app_facts HRw.out HST1.out.bel hown' hgrow hloc
                exact ⟨q1, by rw [snoc_new hls]; simpa only [EG, ← HZ.out] using q2, q3⟩
            · go_wp2
              go_meet
              case rel =>
                obtain ⟨q1, q2⟩ := same_facts HRw.out
                exact ⟨q1, by rw [snoc_keep hls]; simpa only [EG, ← HZ.out] using q2, HST1.out.bel⟩
          case rest =>
            obtain ⟨hc2, hr2, hb2⟩ := hcut.out
            clear hcut
            have m2 : MapIs wc w.heap.size lE := HST1.out.e.2.2.1.of_block (hc2.block _ HST1.out.e.2.2.1.lt (by rw [HST1.out.e.1]; simp [tE, tEl]))
            have hput := (run_putMap (P := Try.prog) Try.underlying36 Try.underlying9 (rdAt rs k).pat u10 m2).1
            rw [HZ.out] at hr2
            obtain ⟨own3, lE3, hST3⟩ := HST1.out.evs hc2 hr2 hb2
            clear hc2 hr2 hb2 m2 HST1 HRw HV
            obtain ⟨w3, hw3⟩ : ∃ w3, w3 = putMap wc w.heap.size (rdAt rs k).pat u10 := ⟨_, rfl⟩
            rw [← hw3] at hput hST3
            clear hw3
            have HST3 := mkHid hST3
            have d2 : w3.cell? ⟨b, off + k * 3 + 2, none⟩ = _ := (hST3.bel.cell (by exact hbl)).trans (HC.out k hlt).2.2
            clear hST3
            cases hn : emp (rdAt rs k).ref
            · have hn' : (rdAt rs k).ref.toList.isEmpty = false := (emp_is _).trans hn
              have HN := mkHid hn
              clear hn
              have hmm := @run_makeMap Try.prog
              have nm := nilmap36
              have hlk2 := run_look (P := Try.prog) Try.underlying37 Try.underlying9 z36 HST3.out.r.2.2.1 (rdAt rs k).pat false
              obtain ⟨r, hr⟩ := PR.isMap HST3.out.r (rdAt rs k).pat
              rw [hr] at hlk2
              simp only [Bool.false_eq_true, if_false] at hlk2
              have HR := mkHid hr
              have hput2 := (run_putMap (P := Try.prog) Try.underlying37 Try.underlying9 (rdAt rs k).pat (.map (some w3.heap.size)) (HST3.out.r.2.2.1.alloc (.map #[] 0))).1
              clear hr
              go_upto_if 85 with (fail)
              go_cut [13] (fun m wc' => Hid (R3 w wc' w.heap.size (w.heap.size + 1) (w.heap.size + 2) rs k u6 lE3 lO hO m))
              case first =>
                cases r with
                | none =>
                  go_wp2
                  go_meet
                  case rel =>
                    obtain ⟨own4, lR4, q1, q2⟩ := HST3.out.make HR.out
                    exact ⟨own4, lR4, _, rfl, q2, q1⟩
                | some b4 =>
                  go_wp2
                  go_meet
                  case rel => exact ⟨own3, lR, _, rfl, HR.out, HST3.out⟩
              case rest =>
                obtain ⟨own4, lR4, b4, rfl, hq4, hST4⟩ := hcut.out
                clear hcut HST3 HR hput2 hlk2 nm hput d2 hmm hx1
                have HST4 := mkHid hST4
                have HQ4 := mkHid hq4
                obtain ⟨lm, hG⟩ := PR.grp hST4.r hq4
                have HG := mkHid hG
                have hlk3 := run_look (P := Try.prog) Try.underlying36 Try.underlying9 z30 hG.2.2.1 (rdAt rs k).ref true
                obtain ⟨v6, hv6⟩ : ∃ v, v = (look lm (rdAt rs k).ref).getD nilS := ⟨_, rfl⟩
                rw [(hG.2.2.2 (rdAt rs k).ref).2, ← hv6] at hlk3
                simp only [if_true, RO] at hlk3
                have HV6 := mkHid hv6
                have hlk4 := run_look (P := Try.prog) Try.underlying38 Try.underlying9 z39 hST4.o.2.2.1 (rdAt rs k).pat false
                obtain ⟨v7, hv7⟩ : ∃ v, v = (look lO (rdAt rs k).pat).getD nilS := ⟨_, rfl⟩
                have hR7 := (hST4.o.2.2.2 (rdAt rs k).pat).1
                rw [← hv7] at hlk4 hR7
                simp only [Bool.false_eq_true, if_false] at hlk4
                have HR7 := mkHid hR7
                have hrl := roOf_le rs (rdAt rs k).pat k
                have hsz4 := hST4.bel.size
                clear hST4 hq4 hG hv6 hv7 hR7
                go_upto_if 97 with (fail)
                go_cut [15] (fun s15 wc' => Hid (R4 w wc' w.heap.size (w.heap.size + 1) (w.heap.size + 2) rs k u6 lE3 lR4 b4 lm))
                case first =>
                  cases hh : has (roOf rs (rdAt rs k).pat k) (rdAt rs k).ref
                  · go_wp2_with (first | (at_builtin; refine wpList_append_own_at _ rfl _ _ 39 rfl w.heap.size 9 j0 (.string ByteArray.empty) 1 16 Try.underlying39 ji jz0 jz1 jz2 rfl (by decide) _ _ _ rfl (World.ownsRow.alloc HR7.out.1 _) ⟨wc.heap.size, 0, none⟩ 1 1 [.string (rdAt rs k).ref] rfl rfl (cell_one_new _ _ _) (str_oneCell _) (by simp only [OG, strs, List.length_map, maxLen]; omega) (by simp only [OG, strs, List.length_map]; omega) (by simp; omega) ?_; intro v' w1 hown' hgrow hnil hloc; obtain ⟨q1, q2, q3⟩ := app_facts HR7.out HST4.out.bel hown' hgrow hloc; have hput5 := (run_putMap (P := Try.prog) Try.underlying38 Try.underlying9 (rdAt rs k).pat v' (HST4.out.o.2.2.1.of_block (q1.block _ HST4.out.o.2.2.1.lt (by rw [HST4.out.o.1]; simp [tO, tOl])))).1))
                    go_meet
                    case rel =>
                      obtain ⟨own5, lO5, hO5, s1, s2⟩ := HST4.out.refOrder HN.out hh q1 q2 q3
                      exact ⟨own5, lO5, hO5, s1, HG.out.chg s2 (by simp [tM, tO, tOl]) (fun r => by simp [tMl, tO, tOl])⟩
                  · go_wp2
                    go_meet
                    case rel => exact ⟨own4, lO, hO, HST4.out.refOrder_keep (.inr hh), HG.out⟩
                case rest =>
                  obtain ⟨own5, lO5, hO5, hST5, hG5⟩ := hcut.out
                  clear hcut HST4 HG HR7 hlk4 hlk3
                  have HST5 := mkHid hST5
                  have HG5 := mkHid hG5
                  have hR6 := (hG5.2.2.2 (rdAt rs k).ref).1
                  rw [← HV6.out] at hR6
                  have HR6 := mkHid hR6
                  have hil := hR6.il
                  obtain ⟨va, vc, vg, hve, hva, hvcell, -, -, -⟩ := hil.look
                  subst hve
                  have hml := rmdl_le rs (rdAt rs k).pat (rdAt rs k).ref k
                  clear hST5 hG5 hR6
                  obtain ⟨zs, hzs⟩ : ∃ zs, zs = rmdl rs (rdAt rs k).pat (rdAt rs k).ref k := ⟨_, rfl⟩
                  have HZ := mkHid hzs
                  rw [← hzs] at hva hvcell hml HR6 HV6 ⊢
                  have hx3 : ∀ W, 0 < zs.length → (Instr.indexAt 30 (.slice va zs.length vc) (.int .i64 ((zs.length : Int) - 1))).run Try.prog W = .ok (.pointer (some ⟨vg, zs.length - 1, none⟩)) W := by
                    intro W hpos
                    have e : ((zs.length : Int) - 1) = ((zs.length - 1 : Nat) : Int) := by omega
                    rw [e]; exact ix30 va _ vc vg hva _ (by omega) W
                  have hcl : 0 < zs.length → wc.cell? ⟨vg, zs.length - 1, none⟩ = _ := fun hpos => hvcell (zs.length - 1) (by omega)
                  clear hvcell hva hil hzs
                  go_upto_region 25 with (fail)
                  go_cut [118, 14] (fun s s14 wc' => s = .bool (!lastIs zs (rdAt rs k).ev) ∧ s14 = .slice va zs.length vc ∧ wc' = wc)
                  case first =>
                    by_cases hpos : 0 < zs.length
                    · have hx3' := fun W => hx3 W hpos
                      have hcl' := hcl hpos
                      clear hx3 hcl
                      have HL := mkHid (last_eq zs (by omega) (rdAt rs k).ev)
                      have hne0 : ¬ (zs.length = 0) := by omega
                      have hne1 : ((zs.length : Int) == 0) = false := by simp [hne0]
                      cases hle : (intAt zs (zs.length - 1) == (rdAt rs k).ev)
                      · have hle' : (intAt zs (zs.length - 1) != (rdAt rs k).ev) = true := by simp [bne, hle]
                        go_wp2
                        go_meet
                        case rel => exact ⟨by rw [HL.out, hle]; rfl, rfl, rfl⟩
                      · have hle' : (intAt zs (zs.length - 1) != (rdAt rs k).ev) = false := by simp [bne, hle]
                        go_wp2
                        go_meet
                        case rel => exact ⟨by rw [HL.out, hle]; rfl, rfl, rfl⟩
                    · have e0 : zs.length = 0 := by omega
                      have HL : Hid (lastIs zs (rdAt rs k).ev = false) := mkHid (by simp [lastIs, e0])
                      clear hx3 hcl
                      have HE0 := mkHid e0
                      go_wp2
                      go_meet
                      case rel => exact ⟨by rw [HL.out]; rfl, by rw [HE0.out], rfl⟩
                  case rest =>
                    obtain ⟨rfl, rfl, hwc⟩ := hcut
                    have hwc := hwc.symm
                    subst hwc
                    clear hx3 hcl
                    have hw5 := HST5.out.bel.size
                    go_upto_if 118 with (fail)
                    go_cut [14] (fun s wc' => Hid (R2 w wc own5 (tMl (rdAt rs k).pat (rdAt rs k).ref) (snocNew zs (rdAt rs k).ev) s wc'))
                    case first =>
                      cases hls : lastIs zs (rdAt rs k).ev
                      · go_wp2_with (first | (at_builtin; refine wpList_append_own_at _ rfl _ _ 30 rfl w.heap.size 2 i0 (.int .i64 0) 1 8 Try.underlying30 hi hz0 hz1 hz2 rfl (by decide) _ _ _ rfl (World.ownsRow.alloc HR6.out.1 _) ⟨wc.heap.size, 0, none⟩ 1 1 [.int .i64 (rdAt rs k).ev] rfl rfl (cell_one_new _ _ _) (ints_oneCell .i64 [(rdAt rs k).ev]) (by simp only [RG, ints, List.length_map, maxLen, ← HZ.out]; omega) (by simp only [RG, ints, List.length_map, ← HZ.out]; omega) (by simp; omega) ?_; intro v' w1 hown' hgrow hnil hloc))
                        go_meet
                        case rel =>
                          obtain ⟨q1, q2, q3⟩ := app_facts HR6.out HST5.out.bel hown' hgrow hloc
                          exact ⟨q1, by rw [snoc_new hls]; simpa only [RG, ← HZ.out] using q2, q3⟩
                      · go_wp2
                        go_meet
                        case rel =>
                          obtain ⟨q1, q2⟩ := same_facts HR6.out
                          exact ⟨q1, by rw [snoc_keep hls]; simpa only [RG, ← HZ.out] using q2, HST5.out.bel⟩
                    case rest =>
                      obtain ⟨hc2, hr2, hb2⟩ := hcut.out
                      clear hcut
                      have m2 : MapIs wc b4 lm := HG5.out.2.2.1.of_block (hc2.block _ HG5.out.2.2.1.lt (by rw [HG5.out.1]; simp [tM, tMl]))
                      have hput := (run_putMap (P := Try.prog) Try.underlying36 Try.underlying9 (rdAt rs k).ref u14 m2).1
                      rw [HZ.out] at hr2
                      obtain ⟨own6, hST6⟩ := HST5.out.refs HN.out HQ4.out HG5.out hc2 hr2 hb2
                      clear hc2 hr2 hb2 m2 HST5 HR6 HV6 HG5
                      obtain ⟨w6, hw6⟩ : ∃ w6, w6 = putMap wc b4 (rdAt rs k).ref u14 := ⟨_, rfl⟩
                      rw [← hw6] at hput hST6
                      clear hw6
                      have HST6 := mkHid hST6
                      clear hST6
                      go_wp2
                      go_roundw
                      case rel => exact ⟨k + 1, by omega, by go_num, own6, lE3, lR4, lO5, hO5, HST6.out⟩
                      case measure => simp [intOf]; omega
            · have hn' : (rdAt rs k).ref.toList.isEmpty = true := (emp_is _).trans hn
              go_wp2
              go_roundw
              case rel => exact ⟨k + 1, by omega, by go_num, own3, lE3, lR, lO, hO, (HST3.out.refOrder_keep (.inl hn)).refs_keep hn⟩
              case measure => simp [intOf]; omega
    · have ek : k = rs.length := by omega
      subst ek
      obtain ⟨own, lE, lR, lO, hO, hST⟩ := hS.out
      clear hS hcell hix
      have HST := mkHid hST
      have hw1 := hST.bel.size
      obtain ⟨oa, oc, og, hov, hoa, hocell, holt⟩ := hST.l.sl.look
      subst hov
      have hixo := ix39 oa (ordOf rs rs.length).length oc og hoa
      have hol := ordOf_le rs rs.length
      clear hST hoa
      obtain ⟨w1, hww⟩ : ∃ w1, w1 = wr := ⟨wr, rfl⟩
      subst hww
      go_wp2_with (first | (go_at_call 12; refine (newIndex_any _).mono ?_; rintro e wA ⟨rfl, rfl⟩))
      go_loopw [17] (fun j w2 => ∃ t : Nat, t ≤ (ordOf rs rs.length).length ∧ j = .int .i64 t ∧ Hid (S2 w w1 own rs rs.length t w2)) (fun j _ => (ordOf rs rs.length).length - (intOf j).toNat)
      case atStart => exact ⟨0, Nat.zero_le _, rfl, S2_start HST.out.bel⟩
      case round =>
        obtain ⟨w2, hww⟩ : ∃ w2, w2 = wr := ⟨wr, rfl⟩
        subst hww
        obtain ⟨t, ht, rfl, hS2⟩ := hrel
        by_cases htl : t < (ordOf rs rs.length).length
        · have hix1 := hixo t htl
          have hcx : w2.cell? ⟨og, t, none⟩ = _ := (World.cell?_of_block (hS2.out.chg.block og (holt (by omega)).2 id)).trans (hocell t htl)
          have hs2 := hS2.out.size
          have hst2 := HST.out.keep hS2.out.chg hS2.out.bel
          have HST2 := mkHid hst2
          have hml := mdl_le rs (strAt (ordOf rs rs.length) t) E0 rs.length
          have hrl := roOf_le rs (strAt (ordOf rs rs.length) t) rs.length
          -- refOrder[pid]
          have hlkO := run_look (P := Try.prog) Try.underlying38 Try.underlying9 z39 (hst2.o.2.2.1.alloc (.map #[] 0)) (strAt (ordOf rs rs.length) t) false
          have hRO := (hst2.o.2.2.2 (strAt (ordOf rs rs.length) t)).1
          obtain ⟨vo, hvo⟩ : ∃ v, v = (look lO (strAt (ordOf rs rs.length) t)).getD nilS := ⟨_, rfl⟩
          rw [← hvo] at hlkO hRO
          simp only [Bool.false_eq_true, if_false] at hlkO
          obtain ⟨ra, rc, rg, hve, hra, hrcell, hrlt⟩ := (Rw.sl hRO).look
          subst hve
          -- refs[pid]
          have hlkR := run_look (P := Try.prog) Try.underlying37 Try.underlying9 z36 (hst2.r.2.2.1.alloc (.map #[] 0)) (strAt (ordOf rs rs.length) t) false
          obtain ⟨r, hr⟩ := PR.isMap hst2.r (strAt (ordOf rs rs.length) t)
          rw [hr] at hlkR
          simp only [Bool.false_eq_true, if_false] at hlkR
          have HR := mkHid hr
          have hixr := ix39 ra (roOf rs (strAt (ordOf rs rs.length) t) rs.length).length rc rg hra
          clear hocell hixo holt hst2 hRO hr hra hvo HST
          obtain ⟨pid, hpid⟩ : ∃ p, p = strAt (ordOf rs rs.length) t := ⟨_, rfl⟩
          rw [← hpid] at hcx hml hrl hlkO hrcell hrlt hlkR HR hixr
          have HP := mkHid hpid
          clear hpid
          obtain ⟨ro, hro⟩ : ∃ l, l = roOf rs pid rs.length := ⟨_, rfl⟩
          rw [← hro] at hrl hlkO hrcell hrlt hixr
          have HRO := mkHid hro
          clear hro
          go_wp2
          go_loopw [22] (fun i w3 => ∃ s : Nat, s ≤ ro.length ∧ i = .int .i64 s ∧ Hid (S3 w2 rs rs.length pid s w3)) (fun i _ => ro.length - (intOf i).toNat)
          case atStart => exact ⟨0, Nat.zero_le _, rfl, S3_start w2 rs rs.length pid⟩
          case round =>
            obtain ⟨w3, hww⟩ : ∃ w3, w3 = wr := ⟨wr, rfl⟩
            subst hww
            obtain ⟨s, hs, rfl, hS3⟩ := hrel
            have hb3 := hS3.out.bel
            have hs3 := hS3.out.size
            by_cases hsl : s < ro.length
            · obtain ⟨b4, hb4⟩ : ∃ b4, r = some b4 := by
                cases hr : r with
                | some b4 => exact ⟨b4, rfl⟩
                | none =>
                  exfalso
                  have hq := HR.out
                  rw [hr] at hq
                  rcases HST2.out.r.2.2.2 pid with ⟨_, q2, _⟩ | ⟨b5, q2, _⟩
                  · have : ro = [] := HRO.out.trans q2
                    rw [this] at hsl; simp at hsl
                  · rw [q2] at hq; cases hq
              subst hb4
              obtain ⟨lm, hG⟩ := PR.grp HST2.out.r HR.out
              obtain ⟨lr, hlr, -⟩ := hS3.out.map
              have hc3 : w3.cell? ⟨rg, s, none⟩ = _ := (hb3.cell (by exact (hrlt (by omega)).2)).trans (hrcell s hsl)
              have hi3 := hixr s hsl
              have hrg3 : rg < w3.heap.size := Nat.lt_of_lt_of_le (hrlt (by omega)).2 hb3.size
              obtain ⟨rf, hrf⟩ : ∃ x, x = strAt ro s := ⟨_, rfl⟩
              rw [← hrf] at hc3
              have hbl4 := hG.2.2.1.lt
              obtain ⟨vm, hvm⟩ : ∃ v, v = (look lm rf).getD nilS := ⟨_, rfl⟩
              have hIL : IL w3 w.heap.size vm (rmdl rs pid rf rs.length) := by
                have := (hG.2.2.2 rf).1
                rw [← hvm] at this
                exact (Rw.il this).below hb3
              have hlkm : ∀ W, Below w3.heap.size w3 W → (Instr.lookup 36 (.map (some b4)) (.string rf) false).run Try.prog W = .ok vm W := by
                intro W hW
                have := run_look (P := Try.prog) Try.underlying36 Try.underlying9 z30 ((hG.2.2.1.below hb3 hbl4).below hW (by omega)) rf false
                rw [this, hvm]; rfl
              have hput : ∀ W v, Below w3.heap.size w3 W → (Instr.mapUpdate 36 (.map (some w2.heap.size)) (.string rf) v).run Try.prog W = .ok () (putMap W w2.heap.size rf v) :=
                fun W v hW => (run_putMap (P := Try.prog) Try.underlying36 Try.underlying9 rf v (hlr.below hW (by omega))).1
              have hb33 : Below w3.heap.size w3 w3 := Below.refl _ _
              have hrm := rmdl_le rs pid rf rs.length
              have HIL := mkHid hIL
              have HRF := mkHid hrf
              clear hIL hG hlr hvm hrf hrcell hixr hmm hlkO hlkR hcx hix1
              go_wp2_with (fail)
              go_region_held3 (fun W => W.cell? ⟨rg, s, none⟩ = some (.string rf))
                (first | exact hc3 | assumption | exact keep_put (by assumption))
                (first
                  | (go_at_call 13; refine (slack_any w.heap.size vm (rmdl rs pid rf rs.length) w3.drew HIL.out (by omega)).mono ?_; rintro e w4 ⟨⟨v', rfl, hv'⟩, hbb⟩; have hbel4 : Below w3.heap.size w3 w4 := below_then (Below.refl _ _).drew hbb; have hsz4 := hbel4.size; have hc4 : w4.cell? ⟨rg, s, none⟩ = some (.string rf) := (by rw [hbel4.cell (p := ⟨rg, s, none⟩) hrg3]; exact hc3); have HV' := mkHid hv'; clear hv'))
              go_wp2
              go_roundw
              case rel =>
                refine ⟨s + 1, by omega, by go_num, ?_⟩
                have e1 := HRO.out
                have e2 := HRF.out
                subst e1
                subst e2
                exact S3_step hS3.out hsl hbel4 HV'.out
              case measure => simp [intOf]; omega
            · have es : s = ro.length := by omega
              subst es
              obtain ⟨vE, hvE⟩ : ∃ v, v = (look lE pid).getD nilS := ⟨_, rfl⟩
              have hRE := (HST2.out.e.2.2.2 pid).1
              have hltE := HST2.out.e.2.2.1.lt
              have hlkE := run_look (P := Try.prog) Try.underlying36 Try.underlying9 z30 (HST2.out.e.2.2.1.below hb3 hltE) pid false
              rw [← hvE] at hlkE hRE
              simp only [Bool.false_eq_true, if_false] at hlkE
              have hIL : IL w3 w.heap.size vE (mdl rs pid E0 rs.length) := (Rw.il hRE).below hb3
              have HIL := mkHid hIL
              have hx3 : w3.heap[w1.heap.size + 1]? = some (.cells (xCells w1.heap.size) 58 (0, 0)) := (hb3.block _ (by omega)).trans hS2.out.xb
              obtain ⟨lp, hlp, -⟩ := hS2.out.ix
              have hlp3 := hlp.below hb3 (by omega)
              have HLP := mkHid hlp3
              have HX3 := mkHid hx3
              clear hIL hRE hvE hmm hlkO hlkR hcx hix1 hrcell hixr hlp hlp3 hx3
              go_wp2_with (first
                | (go_at_call 13; refine (slack_any w.heap.size vE (mdl rs pid E0 rs.length) w3 HIL.out (by omega)).mono ?_; rintro e w4 ⟨⟨v', rfl, hv'⟩, hbel4⟩; obtain ⟨a4, c4, g4, rfl, -⟩ := hv'.look; have HV' := mkHid hv'; have hx4 : w4.cell? ⟨w1.heap.size + 1, 6, none⟩ = some (.map (some w1.heap.size)) := (by rw [cell_of_row _ _ _ _ _ _ ((hbel4.block _ (by omega)).trans HX3.out)]; rfl); have hlp4 := HLP.out.below hbel4 (by omega); clear hv')
                | (go_at_call 14; refine (put_any _ _ _ _ _ _ _ _ _ hx4 hlp4).mono ?_; rintro e w5 ⟨rfl, rfl⟩))
              go_roundw
              case rel =>
                refine ⟨t + 1, by omega, by go_num, ?_⟩
                have e1 := HRO.out
                have e2 := HP.out
                subst e1
                subst e2
                exact S2_step hS2.out htl hw1 hS3.out hbel4 HV'.out
              case measure => simp [intOf]; omega
        · have et : t = (ordOf rs rs.length).length := by omega
          subst et
          go_wp2
          go_ret
          have h2 := hS2.out
          have h2i := h2.ix
          rw [List.take_length] at h2i
          exact ⟨⟨_, _, _, rfl, by omega, by omega, by omega, h2.xb, h2i⟩, h2.bel⟩
end Go.Proofs.Qxb6630623a
