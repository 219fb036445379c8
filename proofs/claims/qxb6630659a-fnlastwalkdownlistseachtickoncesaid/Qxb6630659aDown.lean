import Derived.Test.Qxb6630659aSmall
import Derived.Deep.CutBlock
/- THE WALK of FnLastWalkDownListsEachTickOnce (4). -/
namespace Go.Proofs.Qxb6630659a
set_option linter.unusedVariables false
set_option linter.unusedSimpArgs false
open Go.RowKit

/-- How many numbers from L up, below N, are in P. -/
def cnt (P : Nat → Bool) (L : Nat) : Nat → Nat
  | 0 => 0
  | N + 1 => cnt P L N + if L ≤ N ∧ P N = true then 1 else 0
theorem cnt_upd (P : Nat → Bool) (L o N : Nat) : cnt (Upd P o) L N = cnt P L N + if L ≤ o ∧ o < N ∧ P o = false then 1 else 0 := by
  induction N with
  | zero => simp [cnt]
  | succ N ih =>
    unfold cnt
    rw [ih]
    by_cases e : N = o
    · subst e
      by_cases h1 : L ≤ N
      · cases h2 : P N <;> simp [Upd, h1, h2]
      · simp [h1]
    · have e1 : (N == o) = false := by rw [beq_eq_false_iff_ne]; exact e
      have e2 : (L ≤ o ∧ o < N + 1 ∧ P o = false) ↔ (L ≤ o ∧ o < N ∧ P o = false) := by
        constructor
        · rintro ⟨h1, h2, h3⟩; exact ⟨h1, by omega, h3⟩
        · rintro ⟨h1, h2, h3⟩; exact ⟨h1, by omega, h3⟩
      simp only [Upd, e1, Bool.or_false, e2]
      omega
theorem cnt_false (L N : Nat) : cnt (fun _ => false) L N = 0 := by
  induction N with
  | zero => rfl
  | succ N ih => unfold cnt; rw [ih]; simp
theorem cnt_none (P : Nat → Bool) (L a : Nat) : ∀ N, a ≤ N → (∀ j, L ≤ j → a ≤ j → j < N → P j = false) → cnt P L N = cnt P L a := by
  intro N
  induction N with
  | zero => intro h1 _; rw [show a = 0 by omega]
  | succ N ih =>
    intro h1 h2
    by_cases e : a = N + 1
    · rw [e]
    · rw [show cnt P L (N + 1) = cnt P L N + (if L ≤ N ∧ P N = true then 1 else 0) from rfl]
      rw [ih (by omega) (fun j h3 h4 h5 => h2 j h3 h4 (by omega))]
      by_cases h : L ≤ N
      · rw [h2 N h (by omega) (by omega)]; simp
      · simp [h]
theorem cnt_low (P : Nat → Bool) (L N : Nat) (h : N ≤ L) : cnt P L N = 0 := by
  rw [cnt_none P L 0 N (Nat.zero_le _) (fun j h1 h2 h3 => by omega)]; rfl
theorem cnt_last {P : Nat → Bool} {L C : Nat} {r : Int} {ok : Bool} (h : LS P L C r ok) : (ok = false → cnt P L (C + 1) = 0) ∧
    (ok = true → ∃ i : Nat, r = (i : Int) - 887272 ∧ L ≤ i ∧ i ≤ C ∧ P i = true ∧ cnt P L (C + 1) = cnt P L i + 1) := by
  constructor
  · intro e
    rw [cnt_none P L 0 (C + 1) (Nat.zero_le _) (fun j h1 h2 h3 => (h.2 e).2 j h1 (by omega))]; rfl
  · intro e
    obtain ⟨i, h1, h2, h3, h4, h5⟩ := h.1 e
    refine ⟨i, h1, h2, h3, h4, ?_⟩
    rw [cnt_none P L (i + 1) (C + 1) (by omega) (fun j k1 k2 k3 => h5 j (by omega) (by omega))]
    simp [cnt, h2, h4]
theorem cnt_le (zs : List Int) (n L N : Nat) (hn : n ≤ zs.length) (hr : InR zs n) : cnt (Mem zs n) L N ≤ n := by
  induction n with
  | zero => rw [Mem_zero, cnt_false]; omega
  | succ k ih =>
    have hk := hr k (by omega)
    obtain ⟨o, ho⟩ : ∃ o : Nat, zs.getD k 0 = (o : Int) - 887272 := ⟨(zs.getD k 0 + 887272).toNat, by omega⟩
    rw [Mem_succ zs k o (by omega) ho, cnt_upd]
    have := ih (by omega) (fun i hi => hr i (by omega))
    split <;> omega
theorem dn_lt (C i : Nat) (h : i ≤ C) : (intOf (Value.int IntKind.i64 ((i : Int) - 887272 - 1)) + 887273).toNat < (intOf (Value.int IntKind.i64 ((C : Int) - 887272)) + 887273).toNat := by
  show (((i : Int) - 887272 - 1) + 887273).toNat < (((C : Int) - 887272) + 887273).toNat
  omega
def DRel (zs : List Int) (n L H : Nat) (c C : Nat) : Prop := c + cnt (Mem zs n) L C = cnt (Mem zs n) L (H + 1)

def Done4 (w : World) (e : Ending) (w' : World) : Prop := e = .returned (.bool true) ∧ Below w.heap.size w w'

set_option maxRecDepth 20000 in
theorem down_any (a0 : Option Addr) (n cap : Nat) (zs : List Int) (a1 a2 : Int) (w : World) (hrow : Row w a0 n cap zs) :
    Calls Try.prog 4 #[.slice a0 n cap, .int .i64 a1, .int .i64 a2] w fun e w' => Done4 w e w' := by
  obtain ⟨A, hT⟩ := hrow.tk
  have HT := mkHid hT
  have HROW := mkHid hrow
  clear hrow
  have hmax := hT.max
  clear hT
  by_cases hn : n ≤ 4096
  · have hb : decide (n ≤ 1048576) = true := decide_eq_true (by omega)
    have hn1 : ¬ ((4096 : Int) < n) := by omega
    by_cases h1 : -887272 ≤ a1 ∧ a1 ≤ 887272
    · by_cases h2 : -887272 ≤ a2 ∧ a2 ≤ 887272
      · have d1 := decide_eq_true h1
        have d2 := decide_eq_true h2
        go_enter Try.func4, Try.ntmps4
        go_wp2_with (first | (go_at_call 9; refine (bytes9_any _ _ _ _ _ _ hmax).mono ?_; rintro e w' ⟨rfl, hw'⟩; have hw' := hw'.symm; subst hw') | (go_at_call 6; refine (inRange_any _ _).mono ?_; rintro e w' ⟨rfl, hw'⟩; have hw' := hw'.symm; subst hw'))
        clear d1 d2
        go_loopw [7] (fun v wr => ∃ k : Nat, k ≤ n ∧ v = .int .i64 k ∧ Hid (InR zs k) ∧ wr = w) (fun v _ => n - (intOf v).toNat)
        case atStart => exact ⟨0, Nat.zero_le _, rfl, fun i hi => by omega, rfl⟩
        case round =>
          obtain ⟨k, hk, rfl, hin, hwr⟩ := hrel
          have hwr := hwr.symm
          subst hwr
          by_cases hkn : k < n
          · have hx := HT.out.ix k hkn
            have hc := HT.out.cell k hkn
            obtain ⟨z, hz⟩ : ∃ z, z = zs.getD k 0 := ⟨_, rfl⟩
            rw [← hz] at hc
            have HZ := mkHid hz
            clear hz
            by_cases hzr : -887272 ≤ z ∧ z ≤ 887272
            · have dz := decide_eq_true hzr
              go_wp2_with (first | (go_at_call 6; refine (inRange_any _ _).mono ?_; rintro e w' ⟨rfl, hw'⟩; have hw' := hw'.symm; subst hw'))
              go_roundw
              case rel => exact ⟨k + 1, hkn, by go_num, fun i hi => by
                by_cases e : i < k
                · exact hin.out i e
                · have : i = k := by omega
                  rw [this, ← HZ.out]; exact hzr, by first | rfl | trivial⟩
              case measure => exact up_lt n k hkn
            · have dz := decide_eq_false hzr
              clear hzr
              go_wp2_with (first | (go_at_call 6; refine (inRange_any _ _).mono ?_; rintro e w' ⟨rfl, hw'⟩; have hw' := hw'.symm; subst hw'))
              go_ret
              exact ⟨rfl, Below.refl _ _⟩
          · have hke : n = k := by omega
            subst hke
            obtain ⟨L, hL⟩ : ∃ L : Nat, a1 = (L : Int) - 887272 := ⟨(a1 + 887272).toNat, by omega⟩
            obtain ⟨H, hH⟩ : ∃ H : Nat, a2 = (H : Int) - 887272 := ⟨(a2 + 887272).toNat, by omega⟩
            subst hL hH
            have hL : L ≤ 1774544 := by omega
            have hH : H ≤ 1774544 := by omega
            go_upto_block 2 with (first | (go_at_call 7; refine (build_row HROW.out (by omega) hin.out).mono ?_; rintro e w1 ⟨sb, Q, rfl, hTS, hQ, hbel⟩; have HTS := mkHid hTS; have HQ := mkHid hQ; have HB := mkHid hbel; clear hTS hQ hbel))
            have HT1 := mkHid (HT.out.below HB.out)
            have hlen := HT.out.len
            have hcl := cnt_le zs n L (H + 1) hlen hin.out
            have HCL := mkHid hcl
            clear HT HROW h1 h2 hcl hwr hw'
            go_cut [9, 10, 11, 12] (fun v v10 v11 v12 wc => v = .int .i64 ((cnt (Mem zs n) L (H + 1) : Nat) : Int) ∧ Hid (Below w1.heap.size w1 wc))
            case first =>
              go_wp2_with (fail)
              go_loopw [9, 10] (fun v v2 wr => ∃ (c C : Nat), v = .int .i64 c ∧ v2 = .int .i64 ((C : Int) - 887273) ∧ C ≤ H + 1 ∧ Hid (DRel zs n L H c C) ∧ Hid (Below w1.heap.size w1 wr)) (fun _ v2 _ => (intOf v2 + 887273).toNat)
              case atStart => exact ⟨0, H + 1, rfl, by go_num, Nat.le_refl _, by show 0 + _ = _; omega, Below.refl _ _⟩
              case round =>
                obtain ⟨c, C', rfl, rfl, hC, hD, hB2⟩ := hrel
                by_cases hLC : L < C'
                · obtain ⟨C, rfl⟩ : ∃ C, C' = C + 1 := ⟨C' - 1, by omega⟩
                  have eC : ((C + 1 : Nat) : Int) - 887273 = (C : Int) - 887272 := by omega
                  have hcn : ¬ ((n : Int) < c) := by have h1 : c + _ = _ := hD.out; have h2 := HCL.out; omega
                  rw [eC]
                  clear eC
                  go_wp2_with (first | (go_at_call 8; refine (last_any _ _ HQ.out sb L C _ (HTS.out.below hB2.out) hL (by omega)).mono ?_; rintro e w2 ⟨⟨r, ok, rfl, hLS⟩, hbel2⟩; have HLS := mkHid (cnt_last hLS); have HB3 := mkHid (hB2.out.trans (hbel2.mono hB2.out.size)); clear hLS hbel2; cases ok; rotate_left; obtain ⟨i, hi⟩ := HLS.out.2 rfl; clear HLS; obtain ⟨rfl, hi1, hi2, hi3, hi4⟩ := hi; have HI3 := mkHid hi3; have HI4 := mkHid hi4; clear hi3 hi4) | fail)
                  · refine (has_any a0 n cap zs A _ w2 (HT1.out.below HB3.out) (by omega)).mono ?_
                    rintro e w' ⟨⟨b, rfl, hbt⟩, hw2⟩
                    have hw2 := hw2.symm
                    subst hw2
                    have hbt := hbt ((mem_iff zs n i hlen).1 HI3.out)
                    subst hbt
                    go_wp2
                    go_roundw
                    case rel => exact ⟨c + 1, i, by go_num, by go_num, by omega, by have h1 : c + _ = _ := hD.out; have h2 := HI4.out; show c + 1 + _ = _; omega, HB3.out⟩
                    case measure => exact dn_lt C i hi2
                  · go_meet
                    case rel => exact ⟨by have h1 : c + _ = _ := hD.out; have h2 := HLS.out.1 trivial; rw [h2] at h1; rw [← h1]; rfl, HB3.out⟩
                · have hcl : cnt (Mem zs n) L C' = 0 := cnt_low _ _ _ (by omega)
                  have HC0 := mkHid hcl
                  clear hcl
                  go_wp2
                  go_meet
                  case rel => exact ⟨by have h1 : c + _ = _ := hD.out; have h2 := HC0.out; rw [h2] at h1; rw [← h1]; rfl, hB2.out⟩
            case rest =>
              obtain ⟨rfl, HB2⟩ := hcut
              have HT2 := mkHid (HT1.out.below HB2.out)
              have HBW := mkHid (HB.out.trans (HB2.out.mono HB.out.size))
              obtain ⟨T, hTT⟩ : ∃ T, T = cnt (Mem zs n) L (H + 1) := ⟨_, rfl⟩
              rw [← hTT]
              have HTT := mkHid hTT
              clear hTT HTS HQ HB HT1 HCL HB2
              obtain ⟨w3, hw3⟩ : ∃ w3, w3 = wc := ⟨wc, rfl⟩
              subst hw3
              go_wp2
              go_loopw [14, 13] (fun v v2 wr => ∃ (k : Nat), k ≤ n ∧ v = .int .i64 k ∧ v2 = .int .i64 ((cnt (Mem zs k) L (H + 1) : Nat) : Int) ∧ wr = w3) (fun v _ _ => n - (intOf v).toNat)
              case atStart => exact ⟨0, Nat.zero_le _, rfl, by rw [Mem_zero, cnt_false]; rfl, rfl⟩
              case round =>
                obtain ⟨k, hk, rfl, rfl, hwr3⟩ := hrel
                have hwr3 := hwr3.symm
                subst hwr3
                by_cases hkn : k < n
                · have hx := HT2.out.ix k hkn
                  have hc := HT2.out.cell k hkn
                  have hkr := hin.out k hkn
                  obtain ⟨o, ho⟩ : ∃ o : Nat, zs.getD k 0 = (o : Int) - 887272 := ⟨(zs.getD k 0 + 887272).toNat, by omega⟩
                  rw [ho] at hc hkr
                  have HO := mkHid ho
                  clear ho
                  have hol : o ≤ 1774544 := by omega
                  clear hkr
                  have hup := Mem_succ zs k o (by omega) HO.out
                  have hcu := cnt_upd (Mem zs k) L o (H + 1)
                  rw [← hup] at hcu
                  have HCU := mkHid hcu
                  clear hup hcu
                  obtain ⟨D, hDD⟩ : ∃ D, D = cnt (Mem zs k) L (H + 1) := ⟨_, rfl⟩
                  have hDk : D ≤ k := by rw [hDD]; exact cnt_le zs k L (H + 1) (by omega) (fun i hi => hin.out i (by omega))
                  rw [← hDD] at HCU ⊢
                  clear hDD
                  by_cases c1 : L ≤ o
                  · by_cases c2 : o ≤ H
                    · go_upto_block 6 with (fail)
                      clear hx hc
                      go_cut [16, 17] from 81 to 113 (fun s j wx => s = .bool (Mem zs k o) ∧ wx = w3)
                      case first =>
                        go_wp2_with (fail)
                        go_loopw [17, 16] (fun v s wr => ∃ (m : Nat), m ≤ k ∧ v = .int .i64 m ∧ s = .bool false ∧ Hid (∀ j, j < m → zs.getD j 0 ≠ (o : Int) - 887272) ∧ wr = w3) (fun v _ _ => k - (intOf v).toNat)
                        case atStart => exact ⟨0, Nat.zero_le _, rfl, rfl, fun j hj => by omega, by first | rfl | trivial⟩
                        case round =>
                          obtain ⟨m, hm, rfl, rfl, hno, hwr4⟩ := hrel
                          have hwr4 := hwr4.symm
                          subst hwr4
                          by_cases hmk : m < k
                          · have hx := HT2.out.ix m (by omega)
                            have hc := HT2.out.cell m (by omega)
                            obtain ⟨z, hz⟩ : ∃ z, z = zs.getD m 0 := ⟨_, rfl⟩
                            rw [← hz] at hc
                            have HZ := mkHid hz
                            clear hz
                            by_cases e : z = (o : Int) - 887272
                            · subst e
                              go_wp2
                              go_meet
                              case rel => exact ⟨by rw [(mem_iff zs k o (by omega)).2 ⟨m, hmk, HZ.out.symm⟩], by first | rfl | trivial⟩
                            · have e1 : (z = (o : Int) - 887272) = False := eq_false e
                              have e2 : (z == (o : Int) - 887272) = false := by rw [beq_eq_false_iff_ne]; exact e
                              have E := mkHid e
                              clear e
                              go_wp2
                              go_roundw
                              case rel => exact ⟨m + 1, hmk, by go_num, rfl, fun j hj => by
                                by_cases e : j < m
                                · exact hno.out j e
                                · have : j = m := by omega
                                  rw [this, ← HZ.out]; exact E.out, by first | rfl | trivial⟩
                              case measure => exact up_lt k m hmk
                          · have hke : k = m := by omega
                            subst hke
                            go_wp2
                            go_meet
                            case rel =>
                              have e : Mem zs k o = false := by
                                cases e : Mem zs k o with
                                | false => rfl
                                | true =>
                                  obtain ⟨j, hj, ej⟩ := (mem_iff zs k o (by omega)).1 e
                                  exact absurd ej (hno.out j hj)
                              exact ⟨by rw [e], by first | rfl | trivial⟩
                      case rest =>
                        obtain ⟨rfl, hwx⟩ := hcut
                        have hwx := hwx.symm
                        subst hwx
                        cases hme : Mem zs k o
                        · go_wp2
                          go_roundw
                          case rel => exact ⟨k + 1, hkn, by go_num, by rw [HCU.out, if_pos ⟨c1, by omega, hme⟩]; go_num, by first | rfl | trivial⟩
                          case measure => exact up_lt n k hkn
                        · go_wp2
                          go_roundw
                          case rel => exact ⟨k + 1, hkn, by go_num, by rw [HCU.out, if_neg (by rw [hme]; rintro ⟨_, _, h⟩; cases h)]; rfl, by first | rfl | trivial⟩
                          case measure => exact up_lt n k hkn
                    · go_wp2
                      go_roundw
                      case rel => exact ⟨k + 1, hkn, by go_num, by rw [HCU.out, if_neg (by omega)]; rfl, by first | rfl | trivial⟩
                      case measure => exact up_lt n k hkn
                  · go_wp2
                    go_roundw
                    case rel => exact ⟨k + 1, hkn, by go_num, by rw [HCU.out, if_neg (by omega)]; rfl, by first | rfl | trivial⟩
                    case measure => exact up_lt n k hkn
                · have hke : n = k := by omega
                  subst hke
                  have e := HTT.out
                  rw [← e]
                  clear e
                  go_wp2
                  go_ret
                  exact ⟨rfl, HBW.out⟩
      · have d1 := decide_eq_true h1
        have d2 := decide_eq_false h2
        clear h1 h2
        go_enter Try.func4, Try.ntmps4
        go_wp2_with (first | (go_at_call 9; refine (bytes9_any _ _ _ _ _ _ hmax).mono ?_; rintro e w' ⟨rfl, hw'⟩; have hw' := hw'.symm; subst hw') | (go_at_call 6; refine (inRange_any _ _).mono ?_; rintro e w' ⟨rfl, hw'⟩; have hw' := hw'.symm; subst hw'))
        go_ret
        exact ⟨rfl, Below.refl _ _⟩
    · have d1 := decide_eq_false h1
      clear h1
      go_enter Try.func4, Try.ntmps4
      go_wp2_with (first | (go_at_call 9; refine (bytes9_any _ _ _ _ _ _ hmax).mono ?_; rintro e w' ⟨rfl, hw'⟩; have hw' := hw'.symm; subst hw') | (go_at_call 6; refine (inRange_any _ _).mono ?_; rintro e w' ⟨rfl, hw'⟩; have hw' := hw'.symm; subst hw'))
      go_ret
      exact ⟨rfl, Below.refl _ _⟩
  · have hn1 : (4096 : Int) < n := by omega
    cases hb : decide (n ≤ 1048576)
    · go_enter Try.func4, Try.ntmps4
      go_wp2_with (first | (go_at_call 9; refine (bytes9_any _ _ _ _ _ _ hmax).mono ?_; rintro e w' ⟨rfl, hw'⟩; have hw' := hw'.symm; subst hw') | (go_at_call 6; refine (inRange_any _ _).mono ?_; rintro e w' ⟨rfl, hw'⟩; have hw' := hw'.symm; subst hw'))
      go_ret
      exact ⟨rfl, Below.refl _ _⟩
    · go_enter Try.func4, Try.ntmps4
      go_wp2_with (first | (go_at_call 9; refine (bytes9_any _ _ _ _ _ _ hmax).mono ?_; rintro e w' ⟨rfl, hw'⟩; have hw' := hw'.symm; subst hw') | (go_at_call 6; refine (inRange_any _ _).mono ?_; rintro e w' ⟨rfl, hw'⟩; have hw' := hw'.symm; subst hw'))
      go_ret
      exact ⟨rfl, Below.refl _ _⟩
end Go.Proofs.Qxb6630659a
