import Derived.Test.Qxb6630552aLaw
import Derived.Deep.DeepCutAuto
namespace Go.Proofs.Qxb6630552a
set_option linter.unusedVariables false
set_option linter.unusedSimpArgs false
open Go.RowKit

/-- Behind the call the State holds what the model says. -/
theorem post_good {N : Nat} {w' : World} {bs bm : Nat} {ft : Int} {ma : Option Addr} {mcap : Nat} {ms : List ByteArray} {L : List NE} {ns : List ND} {addr : ByteArray} {hs : List HD} {now : Int}
    (hb : Built ns ns.length L) (h : CallPost N bs bm ft ma mcap ms L addr hs now w') : ∃ L', StI N w' bs bm ft ma mcap ms L' ∧ Good ft now ms ns addr hs L' := by
  unfold CallPost at h
  cases hf : findNE L addr with
  | none => rw [hf] at h; exact ⟨L, h, good_none hb hf⟩
  | some e => rw [hf] at h; obtain ⟨g, hg⟩ := h; exact ⟨_, hg, good_some hb hf g⟩

theorem tdiv2_wrap (ft : Int) (h1 : -9223372036854775808 ≤ ft) (h2 : ft ≤ 9223372036854775807) : IntKind.i64.wrap (ft.tdiv 2) = ft.tdiv 2 := by
  have q0 := Int.mul_tdiv_add_tmod ft 2
  have q3 := Int.tmod_lt_of_pos ft (b := 2) (by omega)
  have q4 := Int.lt_tmod_of_pos ft (b := 2) (by omega)
  rw [IntKind.wrap_i64]; omega

theorem last_addr (ns : List ND) (a : ByteArray) (k : Nat) (h : lastNode ns a = (k : Int)) : (ndAt ns k).addr = a := by
  rw [lastNode_key] at h
  rcases lastKey_cases (kN ns) ns.length a with ⟨j, -, h2, h3⟩ | ⟨-, h2⟩
  · rw [h3] at h
    have : j = k := by omega
    subst this
    exact h2
  · omega

/-- Does the report count for this node? -/
def condB (ms : List ByteArray) (ns : List ND) (addr : ByteArray) (x : ND) : Bool :=
  decide (0 ≤ lastNode ns addr) && decide (0 ≤ indexStr ms addr) && !x.dis && decide (0 ≤ indexStr ms x.addr)
theorem cond_want (ms : List ByteArray) (ns : List ND) (addr : ByteArray) (hs : List HD) (now : Int) (x : ND) : wantSeen ms ns addr hs now x = if condB ms ns addr x then seenTo true now hs x.addr x.seen hs.length else x.seen := by
  unfold wantSeen condB
  by_cases h : 0 ≤ lastNode ns addr ∧ 0 ≤ indexStr ms addr ∧ x.dis = false ∧ 0 ≤ indexStr ms x.addr
  · rw [if_pos h, if_pos]
    obtain ⟨h1, h2, h3, h4⟩ := h
    simp [h1, h2, h3, h4]
  · rw [if_neg h, if_neg]
    intro q
    simp only [Bool.and_eq_true, decide_eq_true_eq, Bool.not_eq_true'] at q
    exact h ⟨q.1.1.1, q.1.1.2, q.1.2, q.2⟩

set_option maxRecDepth 20000 in
set_option maxHeartbeats 4000000 in
theorem main_walk (ft now : Int) (a0 a1 a2 : Option Addr) (c0 c1 c2 : Nat) (ms : List ByteArray) (ns : List ND) (addr : ByteArray) (hs : List HD) (w : World) (h0 : SR w a0 ms) (h1 : NR w a1 ns) (h2 : HR w a2 hs)
    (hft1 : -9223372036854775808 ≤ ft) (hft2 : ft ≤ 9223372036854775807) (hag2 : ∀ k, k < hs.length → -9223372036854775808 ≤ (hdAt hs k).ago) :
    Calls Try.prog 3 #[.int .i64 ft, .slice a0 ms.length c0, .slice a1 ns.length c1, .string addr, .slice a2 hs.length c2, .int .i64 now] w fun e w' => e = .returned (.bool true) ∧ Below w.heap.size w w' := by
  have H0 := mkHid h0
  have H1 := mkHid h1
  have H2 := mkHid h2
  have HA2 := mkHid hag2
  clear h0 h1 h2 hag2
  go_enter Try.func3, Try.ntmps3
  go_wp2_with fail
  refine (bytes_any ft now a0 a1 a2 c0 c1 c2 ms ns addr hs _ H0.out H1.out H2.out).mono ?_
  rintro e w' ⟨⟨r, rfl, -⟩, hw⟩
  have hw := hw.symm
  subst hw
  cases r with
  | false => go_wp2; go_ret; exact ⟨rfl, Below.refl _ _⟩
  | true =>
  go_wp2_with fail
  refine (within_any a0 a1 a2 c0 c1 c2 ms ns addr hs _ H0.out H1.out H2.out).mono ?_
  rintro e w' ⟨⟨r, rfl, -⟩, hw⟩
  have hw := hw.symm
  subst hw
  cases r with
  | false => go_wp2; go_ret; exact ⟨rfl, Below.refl _ _⟩
  | true =>
  go_wp2_with fail
  refine (countsFit_any a0 a1 a2 c0 c1 c2 ms ns hs _ H0.out H1.out H2.out).mono ?_
  rintro e w' ⟨⟨r, rfl, hcf⟩, hw⟩
  have hw := hw.symm
  subst hw
  have HCF := mkHid hcf
  clear hcf
  cases r with
  | false => go_wp2; go_ret; exact ⟨rfl, Below.refl _ _⟩
  | true =>
  go_wp2_with fail
  refine (timesFit_any a1 a2 c1 c2 ns hs now _ H1.out H2.out).mono ?_
  rintro e w' ⟨⟨r, rfl, htf⟩, hw⟩
  have hw := hw.symm
  subst hw
  have HTF := mkHid htf
  clear htf
  cases r with
  | false => go_wp2; go_ret; exact ⟨rfl, Below.refl _ _⟩
  | true =>
  obtain ⟨lm, ln, lh, lo⟩ := HCF.out (by first | rfl | trivial)
  obtain ⟨tn, tns, ths⟩ := HTF.out (by first | rfl | trivial)
  rw [inTime_iff] at tn
  obtain ⟨tn1, tn2⟩ := tn
  have LO := mkHid lo
  have TNS := mkHid tns
  have THS := mkHid ths
  clear lo tns ths HCF HTF
  go_wp2_with fail
  refine (cloneStrings_any a0 c0 ms _ H0.out lm).mono ?_
  rintro e w1 ⟨⟨a0', c0', rfl, hsr, -, -⟩, hb1⟩
  have K0 := mkHid hsr
  clear hsr
  go_wp2_with fail
  refine (cloneNodes_any a1 c1 ns _ (H1.out.below hb1) ln LO.out).mono ?_
  rintro e w2 ⟨⟨a1', c1', nc, he, hnr, hlc, hsame⟩, hb2⟩
  rw [← hlc] at he
  subst he
  have K1 := mkHid hnr
  have HLC := mkHid hlc
  have HSM := mkHid hsame
  clear hnr hlc hsame
  go_wp2_with fail
  refine (cloneHeard_any a2 c2 hs _ (H2.out.below (below_then hb1 hb2)) lh).mono ?_
  rintro e w3 ⟨⟨a2', c2', rfl, hhr⟩, hb3⟩
  have K2 := mkHid hhr
  clear hhr
  have tms : ∀ j, j < nc.length → inTime (ndAt nc j).seen = true ∧ inTime (ndAt nc j).rep = true ∧ inTime (ndAt nc j).reping = true := by
    intro j hj
    rw [HLC.out] at hj
    obtain ⟨-, q1, q2, q3, -⟩ := HSM.out j hj
    rw [q1, q2, q3]
    exact TNS.out j hj
  have lod : ∀ j, j < nc.length → (ndAt nc j).old.length ≤ 4096 := by
    intro j hj
    rw [HLC.out] at hj
    obtain ⟨-, -, -, -, -, q, -⟩ := HSM.out j hj
    rw [q]
    exact LO.out j hj
  have lnc : nc.length ≤ 4096 := by rw [HLC.out]; exact ln
  have TMS := mkHid tms
  have LOD := mkHid lod
  clear tms lod LO TNS HSM HLC
  go_wp2_with fail
  refine (build_any ft a0' c0' ms a1' c1' nc _ (K1.out.below hb3) TMS.out).mono ?_
  rintro e w4 ⟨⟨bs, bm, L, rfl, hst, hbu⟩, hb4⟩
  have HST := mkHid hst
  have HBU := mkHid hbu
  clear hst hbu
  have hN := hb4.size
  go_wp2_with fail
  refine (call_any HST.out hN addr a2' c2' hs now (K2.out.below hb4) (fun W hW => K0.out.below (below_then (below_then hb2 hb3) (hb4.trans hW))) tn1 tn2 hft1 hft2 THS.out HA2.out lh (fun x hx => ?_)).mono ?_
  · obtain ⟨j, hj, hx⟩ := built_mem HBU.out x hx
    rw [hx.seen, hx.rep, hx.reping]
    exact TMS.out j hj
  rintro e w5 ⟨rfl, hcp, hb5⟩
  obtain ⟨L', hst', hgood⟩ := post_good HBU.out hcp
  have S5 := mkHid hst'
  have G5 := mkHid hgood
  clear hst' hgood hcp HST HBU L
  have hb35 : Below w3.heap.size w3 w5 := hb4.trans hb5
  have N5 := mkHid ((K1.out.below hb3).below hb35)
  have H5 := mkHid (K2.out.below hb35)
  have M5 := mkHid (K0.out.below (below_then (below_then hb2 hb3) hb35))
  have B5 : Hid (Below w.heap.size w w5) := below_then (below_then (below_then hb1 hb2) hb3) hb35
  clear hb1 hb2 hb3 hb4 hb5 hb35 K0 K1 K2 H0 H1 H2
  have hdc : (((L'.length : Nat) : Int) != ((distinctNodes nc : Nat) : Int)) = false := by rw [G5.out.len]; simp
  go_wp2_with (first
    | (go_at_call 13; refine (lastNode_any a1' c1' nc addr _ N5.out).mono ?_; rintro e w' ⟨rfl, hw⟩; have hw := hw.symm; subst hw)
    | (go_at_call 14; refine (indexStr_any a0' c0' ms addr _ M5.out).mono ?_; rintro e w' ⟨rfl, hw⟩; have hw := hw.symm; subst hw)
    | (go_at_call 15; refine (nodeCount_any S5.out).mono ?_; rintro e w' ⟨rfl, hw⟩; have hw := hw.symm; subst hw)
    | (go_at_call 16; refine (distinct_any a1' c1' nc _ N5.out).mono ?_; rintro e w' ⟨rfl, hw⟩; have hw := hw.symm; subst hw))
  have hw2 := tdiv2_wrap ft hft1 hft2
  generalize hmb : decide (0 ≤ indexStr ms addr) = mb
  have HMB := mkHid hmb
  clear hmb
  go_loopw [80] (fun i wr => ∃ k : Nat, k ≤ nc.length ∧ i = .int .i64 k ∧ Below w5.heap.size w5 wr) (fun i _ => nc.length - (intOf i).toNat)
  case atStart => exact ⟨0, Nat.zero_le _, rfl, Below.refl _ _⟩
  case round =>
    obtain ⟨k, hk, rfl, hbel⟩ := hrel
    by_cases hlt : k < nc.length
    · have hbs := hbel.size
      obtain ⟨-, b, off, hq, hcell⟩ := N5.out.below hbel
      have hix := ix23 a1' nc.length c1' b off (fun h => (hq (by intro e; simp [e] at h)).1)
      obtain ⟨d0, d1, d2, d3, d4, d5, d6⟩ := hcell k hlt
      have hblt := (hq (by intro e; simp [e] at hlt)).2
      have D6 := mkHid d6
      clear hq hcell d6
      by_cases hl : lastNode nc (ndAt nc k).addr = (k : Int)
      · have hlb : (lastNode nc (ndAt nc k).addr != (k : Int)) = false := by simp [hl]
        obtain ⟨e, hfe, hok⟩ := G5.out.each k hlt hl
        obtain ⟨tk1, tk2, tk3⟩ := TMS.out k hlt
        have ldk := LOD.out k hlt
        rw [inTime_iff] at tk1 tk2 tk3
        have hsb : -2305843009213693952 ≤ e.seen ∧ e.seen ≤ 1152921504606846976 := by
          rw [hok.seen]
          unfold wantSeen
          split
          · exact seenTo_bound true now hs _ _ hs.length hs.length (Nat.le_refl _) tn1 tn2 THS.out tk1.1 tk1.2
          · omega
        have hrb : -1152921504606846976 ≤ e.rep ∧ e.rep ≤ 1152921504606846976 ∧ -1152921504606846976 ≤ e.reping ∧ e.reping ≤ 1152921504606846976 := by
          by_cases hq : (k : Int) = lastNode nc addr
          · obtain ⟨q1, q2, -⟩ := hok.own hq
            rw [q1, q2]
            unfold wantReping
            split <;> omega
          · obtain ⟨q1, q2, -⟩ := hok.other hq
            rw [q1, q2]
            omega
        obtain ⟨sb1, sb2⟩ := hsb
        obtain ⟨rb1, rb2, rb3, rb4⟩ := hrb
        have OD := mkHid hok.dis
        have OS := mkHid hok.seen
        have OO := mkHid hok.own
        have OT := mkHid hok.other
        have HFE := mkHid hfe
        have HL := mkHid hl
        clear hl hfe hok
        generalize hx : ndAt nc k = x at *
        have HX := mkHid hx
        clear hx
        obtain ⟨tk2a, tk2b⟩ := tk2
        obtain ⟨tk1a, tk1b⟩ := tk1
        obtain ⟨tk3a, tk3b⟩ := tk3
        go_wp2_with (go_at_call 13; refine (lastNode_any a1' c1' nc x.addr _ (N5.out.below hbel)).mono ?_; rintro e w' ⟨rfl, hw⟩; have hw := hw.symm; subst hw)
        refine (nodeOf_some (S5.out.below (below_then hbel (below_alloc _ _))) x.addr e HFE.out sb1 (by omega) (by omega) (by omega) (by omega) (by omega)).mono ?_
        rintro e' w6 ⟨rfl, hb6⟩
        have hq0 := Deep.blk_alloc_new wr (.cells #[.string x.addr, .int .i64 x.seen, .int .i64 x.rep, .int .i64 x.reping, .bool x.dis, .slice x.oa x.old.length x.ocap] 40)
        have hq6 : w6.heap[wr.heap.size]? = some (.cells #[.string x.addr, .int .i64 x.seen, .int .i64 x.rep, .int .i64 x.reping, .bool x.dis, .slice x.oa x.old.length x.ocap] 40) := by
          rw [hb6.block _ (by simp)]; exact hq0
        have HQ6 := mkHid hq6
        have hbel6 : Below w5.heap.size w5 w6 := below_then hbel (below_then (below_alloc _ _) hb6)
        have hqlt := lt_of_block hq6
        have D7 : Hid (SR w6 x.oa x.old) := (show SR wr x.oa x.old from D6.out).below (below_then (below_alloc _ _) hb6)
        clear hq0 hq6 hb6 d0 d1 d2 d3 d4 d5 hix
        generalize hqb : wr.heap.size = qb at *
        clear hqb
        have p0 : w6.cell? ⟨qb, 0, none⟩ = some (.string x.addr) := cell_of_block HQ6.out
        have p1 : w6.cell? ⟨qb, 1, none⟩ = some (.int .i64 x.seen) := cell_of_block HQ6.out
        have p4 : w6.cell? ⟨qb, 4, none⟩ = some (.bool x.dis) := cell_of_block HQ6.out
        have hde : (e.dis == x.dis) = true := by rw [OD.out]; simp
        go_upto_region 27 with (fail)
        go_cut [132] (fun s wc => s = .bool (condB ms nc addr x) ∧ wc = w6)
        case first =>
          by_cases k1 : 0 ≤ lastNode nc addr
          case neg =>
            have hc : Hid (condB ms nc addr x = false) := by unfold Hid condB; simp [k1]
            go_wp2
            go_meet
            case rel => exact ⟨by rw [hc.out], rfl⟩
          cases mb with
          | false =>
            have hc : Hid (condB ms nc addr x = false) := by unfold Hid condB; rw [HMB.out]; simp
            go_wp2
            go_meet
            case rel => exact ⟨by rw [hc.out], rfl⟩
          | true =>
          cases k3 : x.dis with
          | true =>
            have hc : Hid (condB ms nc addr x = false) := by unfold Hid condB; simp [k3]
            go_wp2
            go_meet
            case rel => exact ⟨by rw [hc.out], rfl⟩
          | false =>
            have hc : Hid (condB ms nc addr x = decide (0 ≤ indexStr ms x.addr)) := by unfold Hid condB; rw [HMB.out, k3]; simp [k1]
            go_wp2_with (go_at_call 14; refine (indexStr_any a0' c0' ms x.addr _ (M5.out.below hbel6)).mono ?_; rintro e w' ⟨rfl, hw⟩; have hw := hw.symm; subst hw)
            go_meet
            case rel => exact ⟨by rw [hc.out], rfl⟩
        case rest =>
          obtain ⟨rfl, hwc⟩ := hcut
          have hwc := hwc.symm
          subst hwc
          go_upto_if 132 with (fail)
          go_cut [23] (fun s wc => s = .int .i64 (wantSeen ms nc addr hs now x) ∧ Below w6.heap.size w6 wc)
          case first =>
            cases hcb : condB ms nc addr x with
            | false =>
              have HCB := mkHid hcb
              go_wp2
              go_meet
              case rel => exact ⟨by rw [cond_want, HCB.out]; rfl, Below.refl _ _⟩
            | true =>
              have hwant : Hid (wantSeen ms nc addr hs now x = seenTo true now hs x.addr x.seen hs.length) := by unfold Hid; rw [cond_want, hcb]; rfl
              go_wp2
              go_loopw [23, 135] (fun s i wz => ∃ m : Nat, m ≤ hs.length ∧ i = .int .i64 m ∧ s = .int .i64 (seenTo true now hs x.addr x.seen m) ∧ Below w6.heap.size w6 wz) (fun _ i _ => hs.length - (intOf i).toNat)
              case atStart => exact ⟨0, Nat.zero_le _, rfl, rfl, Below.refl _ _⟩
              case round =>
                obtain ⟨m, hm, rfl, rfl, hbz⟩ := hrel
                by_cases hltm : m < hs.length
                · obtain ⟨-, bh, offh, hqh, hcellh⟩ := H5.out.below (below_then hbel6 hbz)
                  have hixh := ix24 a2' hs.length c2' bh offh (fun h => (hqh (by intro e; simp [e] at h)).1)
                  obtain ⟨y0, y1⟩ := hcellh m hltm
                  have yb := THS.out m hltm
                  have z0 : wr.cell? ⟨qb, 0, none⟩ = some (.string x.addr) := by rw [hbz.cell (p := ⟨qb, 0, none⟩) hqlt]; exact p0
                  clear hqh hcellh
                  have hsb := seenTo_bound true now hs x.addr x.seen m hs.length hm tn1 tn2 THS.out tk1a tk1b
                  obtain ⟨hsb1, hsb2⟩ := hsb
                  have HSU : Hid (seenTo true now hs x.addr x.seen (m + 1) = if true = true ∧ sEq (hdAt hs m).addr x.addr = true ∧ seenTo true now hs x.addr x.seen m < vouched now (hdAt hs m).ago then vouched now (hdAt hs m).ago else seenTo true now hs x.addr x.seen m) := rfl
                  generalize hgs : seenTo true now hs x.addr x.seen (m + 1) = sN at *
                  have HGS := mkHid hgs
                  generalize seenTo true now hs x.addr x.seen m = sm at *
                  generalize hdAt hs m = y at *
                  clear hgs
                  have i1 : (0 : Int) ≤ m := by omega
                  have i2 : (m : Int) < hs.length := by omega
                  cases hse : sEq y.addr x.addr with
                  | false =>
                    have hse' : (y.addr.toList == x.addr.toList) = false := hse
                    have HSE := mkHid hse
                    clear hse
                    go_wp2
                    go_region_held3 (fun W => W.cell? ⟨bh, offh + m * 2, none⟩ = some (.string y.addr) ∧ W.cell? ⟨qb, 0, none⟩ = some (.string x.addr))
                      (first | exact ⟨y0, z0⟩)
                      (fail)
                    go_wp2
                    go_roundw
                    case rel =>
                      refine ⟨m + 1, by omega, by go_num, ?_, hbz.drew⟩
                      rw [HGS.out, HSU.out, if_neg (by rw [HSE.out]; simp)]
                    case measure => simp [intOf]; omega
                  | true =>
                    have hse' : (y.addr.toList == x.addr.toList) = true := hse
                    have HSE := mkHid hse
                    clear hse
                    have hvb : -2305843009213693952 ≤ vouched now y.ago ∧ vouched now y.ago ≤ 1152921504606846976 := by unfold vouched; omega
                    obtain ⟨vb1, vb2⟩ := hvb
                    by_cases hgt : sm < vouched now y.ago
                    · go_wp2
                      go_region_held3 (fun W => W.cell? ⟨bh, offh + m * 2, none⟩ = some (.string y.addr) ∧ W.cell? ⟨qb, 0, none⟩ = some (.string x.addr))
                        (first | exact ⟨y0, z0⟩)
                        (fail)
                      go_wp2_with (go_at_call 18; refine (vouched_any now y.ago _ tn1 tn2 yb).mono ?_; rintro e w' ⟨rfl, hw⟩; have hw := hw.symm; subst hw)
                      go_roundw
                      case rel =>
                        refine ⟨m + 1, by omega, by go_num, ?_, hbz.drew⟩
                        rw [HGS.out, HSU.out, if_pos ⟨(by first | rfl | trivial), HSE.out, hgt⟩]
                      case measure => simp [intOf]; omega
                    · go_wp2
                      go_region_held3 (fun W => W.cell? ⟨bh, offh + m * 2, none⟩ = some (.string y.addr) ∧ W.cell? ⟨qb, 0, none⟩ = some (.string x.addr))
                        (first | exact ⟨y0, z0⟩)
                        (fail)
                      go_wp2_with (go_at_call 18; refine (vouched_any now y.ago _ tn1 tn2 yb).mono ?_; rintro e w' ⟨rfl, hw⟩; have hw := hw.symm; subst hw)
                      go_roundw
                      case rel =>
                        refine ⟨m + 1, by omega, by go_num, ?_, hbz.drew⟩
                        rw [HGS.out, HSU.out, if_neg (by intro q; omega)]
                      case measure => simp [intOf]; omega
                · have hm' : m = hs.length := by omega
                  subst hm'
                  go_wp2
                  go_meet
                  case rel => exact ⟨by rw [hwant.out], hbz⟩
          case rest =>
            obtain ⟨rfl, hbc⟩ := hcut
            have hse : (e.seen != wantSeen ms nc addr hs now x) = false := by rw [OS.out]; simp
            have hbelc : Below w5.heap.size w5 wc := below_then hbel6 hbc
            have q1 : wc.cell? ⟨qb, 1, none⟩ = some (.int .i64 x.seen) := by rw [hbc.cell (p := ⟨qb, 1, none⟩) hqlt, cell_of_block HQ6.out]; rfl
            have q0 : wc.cell? ⟨qb, 0, none⟩ = some (.string x.addr) := by rw [hbc.cell (p := ⟨qb, 0, none⟩) hqlt, cell_of_block HQ6.out]; rfl
            have q2 : wc.cell? ⟨qb, 2, none⟩ = some (.int .i64 x.rep) := by rw [hbc.cell (p := ⟨qb, 2, none⟩) hqlt, cell_of_block HQ6.out]; rfl
            have q3 : wc.cell? ⟨qb, 3, none⟩ = some (.int .i64 x.reping) := by rw [hbc.cell (p := ⟨qb, 3, none⟩) hqlt, cell_of_block HQ6.out]; rfl
            have q4 : wc.cell? ⟨qb, 4, none⟩ = some (.bool x.dis) := by rw [hbc.cell (p := ⟨qb, 4, none⟩) hqlt, cell_of_block HQ6.out]; rfl
            have q5 : wc.cell? ⟨qb, 5, none⟩ = some (.slice x.oa x.old.length x.ocap) := by rw [hbc.cell (p := ⟨qb, 5, none⟩) hqlt, cell_of_block HQ6.out]; rfl
            generalize wantSeen ms nc addr hs now x = ws at *
            clear p0 p1 p4 OS
            by_cases hit : (k : Int) = lastNode nc addr
            · obtain ⟨o1, o2, o3, o4, o5⟩ := OO.out hit
              have hxa : x.addr = addr := by rw [← HX.out]; exact last_addr nc addr k hit.symm
              have hib : ((k : Int) == lastNode nc addr) = true := by simpa using hit
              have hrn : (e.rep != now) = false := by rw [o1]; simp
              have hfa : findNE L' addr = some e := by rw [← hxa]; exact HFE.out
              have O3 := mkHid o3
              have O4 := mkHid o4
              have O5 := mkHid o5
              have HFA := mkHid hfa
              clear o1 o3 o4 o5 hxa hfa hit
              by_cases hgt : ft.tdiv 2 < now - x.rep
              · have hrp : (e.reping != now) = false := by rw [o2]; unfold wantReping; rw [if_pos hgt]; simp
                clear o2
                go_wp2_with (go_at_call 19; refine (recordIs_true (S5.out.below hbelc) addr e HFA.out a0' c0' a1' c1' nc a2' c2' hs now (M5.out.below hbelc) (N5.out.below hbelc) (H5.out.below hbelc) tn1 tn2 THS.out lh O3.out O4.out O5.out).mono ?_; rintro e w7 ⟨rfl, hb7⟩)
                go_roundw
                case rel => exact ⟨k + 1, by omega, by go_num, below_then hbelc hb7⟩
                case measure => simp [intOf]; omega
              · have hrp : (e.reping != x.reping) = false := by rw [o2]; unfold wantReping; rw [if_neg hgt]; simp
                clear o2
                go_wp2_with (go_at_call 19; refine (recordIs_true (S5.out.below hbelc) addr e HFA.out a0' c0' a1' c1' nc a2' c2' hs now (M5.out.below hbelc) (N5.out.below hbelc) (H5.out.below hbelc) tn1 tn2 THS.out lh O3.out O4.out O5.out).mono ?_; rintro e w7 ⟨rfl, hb7⟩)
                go_roundw
                case rel => exact ⟨k + 1, by omega, by go_num, below_then hbelc hb7⟩
                case measure => simp [intOf]; omega
            · obtain ⟨o1, o2, o3, o4, o5⟩ := OT.out hit
              have hib : ((k : Int) == lastNode nc addr) = false := by simpa using hit
              have hrn : (e.rep != x.rep) = false := by rw [o1]; simp
              have hrp : (e.reping != x.reping) = false := by rw [o2]; simp
              have O3 := mkHid o3
              have O4 := mkHid o4
              have O5 := mkHid o5
              clear o1 o2 o3 o4 o5 hit
              go_wp2_with (go_at_call 20; refine (oldKept_true (S5.out.below hbelc) x e HFE.out (D7.out.below hbc) ldk O3.out O4.out O5.out).mono ?_; rintro e w7 ⟨rfl, hb7⟩)
              go_roundw
              case rel => exact ⟨k + 1, by omega, by go_num, below_then hbelc hb7⟩
              case measure => simp [intOf]; omega
      · have hlb : (lastNode nc (ndAt nc k).addr != (k : Int)) = true := by simp [hl]
        clear hl
        go_wp2_with (go_at_call 13; refine (lastNode_any a1' c1' nc (ndAt nc k).addr _ (N5.out.below hbel)).mono ?_; rintro e w' ⟨rfl, rfl⟩)
        go_roundw
        case rel => exact ⟨k + 1, by omega, by go_num, hbel⟩
        case measure => simp [intOf]; omega
    · go_wp2
      go_ret
      exact ⟨rfl, below_then B5.out hbel⟩
end Go.Proofs.Qxb6630552a
