import Derived.Test.Qxb6630697aMatch
/- THE WALK of FnPositionMatchesLineModel (3). -/
namespace Go.Proofs.Qxb6630697a
set_option linter.unusedVariables false
set_option linter.unusedSimpArgs false
open Go.RowKit

theorem slice9 (t u : ByteArray) (a e : Nat) (hu : u = t.extract a e) (hae : a ≤ e) (h : e ≤ t.size) : ∀ W, (Instr.slice 9 (.string t) (some (.int .i64 (a : Int))) (some (.int .i64 (e : Int))) none).run Try.prog W = .ok (.string u) W := by
  intro W
  have h1 : (0 : Int) ≤ a := by omega
  have h2 : (a : Int) ≤ e := by omega
  have h3 : (e : Int) ≤ t.size := by omega
  rw [hu]
  go_simp
theorem dn_lt (m : Nat) : (intOf (Value.int IntKind.i64 ((m : Int) - 1)) + 1).toNat < (intOf (Value.int IntKind.i64 (m : Int)) + 1).toNat := by
  show (((m : Int) - 1) + 1).toNat < ((m : Int) + 1).toNat
  omega
/-- The tail of the walk asks this of the text, the start and the end. -/
structure Tail (t u : ByteArray) (S E R : Nat) : Prop where
  sl : ∀ W, (Instr.slice 9 (.string t) (some (.int .i64 (S : Int))) (some (.int .i64 (E : Int))) none).run Try.prog W = .ok (.string u) W
  ct : ∀ w, Calls Try.prog 8 #[.string u] w fun e w' => e = .returned (.int .i64 (R : Int)) ∧ w' = w
theorem tail_of (t : ByteArray) (off : Nat) (ho : off ≤ t.size) (hN : t.size ≤ 1048576) : ∃ u, Tail t u (st (bt t) t.size off) (en (bt t) t.size off) (rc (bt t) (en (bt t) t.size off) (st (bt t) t.size off)) := by
  have h1 := st_en (bt t) t.size off
  have h2 := en_le (bt t) t.size off
  refine ⟨t.extract (st (bt t) t.size off) (en (bt t) t.size off), slice9 t _ _ _ rfl h1 (by omega), fun w => ?_⟩
  have := count_any (t.extract (st (bt t) t.size off) (en (bt t) t.size off)) w (by rw [mid_size _ _ _ (by omega)]; omega)
  rw [mid_rc t _ _ (by omega) h1] at this
  exact this

set_option maxRecDepth 20000 in
set_option maxHeartbeats 4000000 in
theorem model_any (t : ByteArray) (off : Int) (w : World) (ht : t.size ≤ maxLen) :
    Calls Try.prog 3 #[.string t, .int .i64 off] w fun e w' => e = .returned (.bool true) ∧ Grown w w' := by
  by_cases hn : t.size ≤ 1048576
  · have hb : decide (t.size ≤ 1048576) = true := decide_eq_true hn
    have hn1 : ¬ ((1048576 : Int) < t.size) := by omega
    by_cases h1 : off < 0
    · go_enter Try.func3, Try.ntmps3
      go_wp2_with (first | (go_at_call 5; refine (bytes5_any _ _ _ ht).mono ?_; rintro e w' ⟨rfl, hw'⟩; have hw' := hw'.symm; subst hw'))
      go_ret
      exact ⟨rfl, Grown.refl _⟩
    · by_cases h2 : (t.size : Int) < off
      · go_enter Try.func3, Try.ntmps3
        go_wp2_with (first | (go_at_call 5; refine (bytes5_any _ _ _ ht).mono ?_; rintro e w' ⟨rfl, hw'⟩; have hw' := hw'.symm; subst hw'))
        go_ret
        exact ⟨rfl, Grown.refl _⟩
      · obtain ⟨F, rfl⟩ : ∃ F : Nat, off = F := ⟨off.toNat, by omega⟩
        have hF : F ≤ t.size := by omega
        obtain ⟨u, hT⟩ := tail_of t F hF hn
        have HT := mkHid hT
        clear hT
        have hst := st_le (bt t) t.size F
        have hen := en_le (bt t) t.size F
        have hse := st_en (bt t) t.size F
        have hpl := PL_le (bt t) t.size F
        have hrc := rc_le (bt t) (en (bt t) t.size F) _ (st (bt t) t.size F) (Nat.le_refl _)
        have HP : ∀ w, _ := fun w => position_any t F w hF (by omega)
        unfold PosP at HP
        have hpc : PC (bt t) t.size F = 1 + rc (bt t) (en (bt t) t.size F) (st (bt t) t.size F) := rfl
        rw [hpc] at HP
        clear hpc
        generalize hRR : rc (bt t) (en (bt t) t.size F) (st (bt t) t.size F) = R at *
        clear hRR
        have HPP := mkHid HP
        clear HP
        go_enter Try.func3, Try.ntmps3
        go_wp2_with (first | (go_at_call 5; refine (bytes5_any _ _ _ ht).mono ?_; rintro e w' ⟨rfl, hw'⟩; have hw' := hw'.symm; subst hw') | (go_at_call 6; refine (HPP.out _).mono ?_; rintro e w1 ⟨rfl, hg⟩; have HG := mkHid hg; clear hg))
        clear HPP
        go_loopw [8, 7] (fun v v2 wr => ∃ j : Nat, j ≤ F ∧ v = .int .i64 j ∧ v2 = .int .i64 ((PL (bt t) t.size j : Nat) : Int) ∧ wr = w1) (fun v _ _ => F - (intOf v).toNat)
        case atStart => exact ⟨0, Nat.zero_le _, rfl, rfl, rfl⟩
        case round =>
          obtain ⟨j, hj, rfl, rfl, hwr⟩ := hrel
          have hwr := hwr.symm
          subst hwr
          by_cases hjF : j < F
          · have hL := lineEnd_any t j w1 (by omega) (by omega)
            have hpj := PL_le (bt t) t.size j
            have hstep : PL (bt t) t.size (j + 1) = PL (bt t) t.size j + if LE (bt t) t.size j then 1 else 0 := by
              show 1 + (cntE (bt t) t.size j + _) = 1 + cntE (bt t) t.size j + _; omega
            have HS := mkHid hstep
            clear hstep
            generalize PL (bt t) t.size j = P at *
            cases hle : LE (bt t) t.size j
            · rw [hle] at hL
              have HL := mkHid hL
              clear hL
              go_wp2_with (first | (go_at_call 7; refine HL.out.mono ?_; rintro e w' ⟨rfl, hw'⟩; have hw' := hw'.symm; subst hw'))
              go_roundw
              case rel => exact ⟨j + 1, hjF, by go_num, by rw [HS.out, hle]; rfl, by first | rfl | trivial⟩
              case measure => exact up_lt F j hjF
            · rw [hle] at hL
              have HL := mkHid hL
              clear hL
              go_wp2_with (first | (go_at_call 7; refine HL.out.mono ?_; rintro e w' ⟨rfl, hw'⟩; have hw' := hw'.symm; subst hw'))
              go_roundw
              case rel => exact ⟨j + 1, hjF, by go_num, by rw [HS.out, hle]; go_num, by first | rfl | trivial⟩
              case measure => exact up_lt F j hjF
          · have hje : F = j := by omega
            subst hje
            go_upto_block 2 with (fail)
            clear hwr
            go_cut [9, 10] (fun v9 v10 wc => v9 = .int .i64 ((st (bt t) t.size F : Nat) : Int) ∧ wc = w1)
            case first =>
              go_wp2_with (fail)
              go_loopw [10, 9] (fun v v2 wr => ∃ m : Nat, m ≤ F ∧ v = .int .i64 ((m : Int) - 1) ∧ v2 = .int .i64 0 ∧ Hid (st (bt t) t.size F = st (bt t) t.size m) ∧ wr = w1) (fun v _ _ => (intOf v + 1).toNat)
              case atStart => exact ⟨F, Nat.le_refl _, by first | rfl | go_num, rfl, rfl, by first | rfl | trivial⟩
              case round =>
                obtain ⟨m', hm, rfl, rfl, hS, hwr2⟩ := hrel
                have hwr2 := hwr2.symm
                subst hwr2
                cases m' with
                | zero =>
                  go_wp2
                  go_meet
                  case rel => exact ⟨by rw [hS.out]; rfl, by first | rfl | trivial⟩
                | succ m =>
                  have em : ((m + 1 : Nat) : Int) - 1 = (m : Int) := by omega
                  rw [em]
                  clear em
                  have hL := lineEnd_any t m w1 (by omega) (by omega)
                  cases hle : LE (bt t) t.size m
                  · rw [hle] at hL
                    have HL := mkHid hL
                    clear hL
                    go_wp2_with (first | (go_at_call 7; refine HL.out.mono ?_; rintro e w' ⟨rfl, hw'⟩; have hw' := hw'.symm; subst hw'))
                    go_roundw
                    case rel => exact ⟨m, by omega, by first | rfl | go_num, rfl, by rw [hS.out]; show (if LE (bt t) t.size m then m + 1 else _) = _; rw [hle]; rfl, by first | rfl | trivial⟩
                    case measure => exact dn_lt m
                  · rw [hle] at hL
                    have HL := mkHid hL
                    clear hL
                    go_wp2_with (first | (go_at_call 7; refine HL.out.mono ?_; rintro e w' ⟨rfl, hw'⟩; have hw' := hw'.symm; subst hw'))
                    go_meet
                    case rel => exact ⟨by rw [hS.out]; show _ = Value.int .i64 (((if LE (bt t) t.size m then m + 1 else _) : Nat) : Int); rw [hle]; first | rfl | go_num, by first | rfl | trivial⟩
            case rest =>
              obtain ⟨rfl, hwc⟩ := hcut
              have hwc := hwc.symm
              subst hwc
              obtain ⟨hSL, hCT⟩ := HT.out
              have HCT := mkHid hCT
              clear hCT HT hwc
              have hee : en (bt t) t.size F = if 0 < F ∧ F < t.size ∧ bt t (F - 1) = 13 ∧ bt t F = 10 then F - 1 else F := rfl
              generalize st (bt t) t.size F = S at *
              generalize en (bt t) t.size F = E at *
              generalize PL (bt t) t.size F = P at *
              by_cases e1 : 0 < F
              · by_cases e2 : F < t.size
                · have hx1 := ixs t (F - 1) (by omega)
                  have hj1 : ((F - 1 : Nat) : Int) = (F : Int) - 1 := by omega
                  rw [hj1] at hx1
                  have hx2 := ixs t F e2
                  have e1i : (0 : Int) < F := by omega
                  have e2i : (F : Int) < t.size := by omega
                  generalize bt t (F - 1) = b1 at *
                  generalize bt t F = b2 at *
                  by_cases e3 : b1 = 13
                  · by_cases e4 : b2 = 10
                    · rw [if_pos ⟨e1, e2, e3, e4⟩] at hee
                      rw [hee, hj1] at hSL
                      subst e3 e4
                      clear hj1 hee
                      go_wp2_with (first | (go_at_call 8; refine (HCT.out _).mono ?_; rintro e w' ⟨rfl, hw'⟩; have hw' := hw'.symm; subst hw'))
                      go_ret
                      exact ⟨rfl, HG.out⟩
                    · rw [if_neg (by omega)] at hee
                      rw [hee] at hSL
                      have f1 : ((b2 : Int) = 10) = False := eq_false (by omega)
                      have f2 : ((b2 : Int) == 10) = false := by rw [beq_eq_false_iff_ne]; omega
                      subst e3
                      clear hj1 hee e4
                      go_wp2_with (first | (go_at_call 8; refine (HCT.out _).mono ?_; rintro e w' ⟨rfl, hw'⟩; have hw' := hw'.symm; subst hw'))
                      go_ret
                      exact ⟨rfl, HG.out⟩
                  · rw [if_neg (by omega)] at hee
                    rw [hee] at hSL
                    have f1 : ((b1 : Int) = 13) = False := eq_false (by omega)
                    have f2 : ((b1 : Int) == 13) = false := by rw [beq_eq_false_iff_ne]; omega
                    clear hj1 hee e3
                    go_wp2_with (first | (go_at_call 8; refine (HCT.out _).mono ?_; rintro e w' ⟨rfl, hw'⟩; have hw' := hw'.symm; subst hw'))
                    go_ret
                    exact ⟨rfl, HG.out⟩
                · rw [if_neg (by omega)] at hee
                  rw [hee] at hSL
                  have e1i : (0 : Int) < F := by omega
                  have e2i : ¬ ((F : Int) < t.size) := by omega
                  clear hee
                  go_wp2_with (first | (go_at_call 8; refine (HCT.out _).mono ?_; rintro e w' ⟨rfl, hw'⟩; have hw' := hw'.symm; subst hw'))
                  go_ret
                  exact ⟨rfl, HG.out⟩
              · rw [if_neg (by omega)] at hee
                rw [hee] at hSL
                have e1i : ¬ ((0 : Int) < F) := by omega
                clear hee
                go_wp2_with (first | (go_at_call 8; refine (HCT.out _).mono ?_; rintro e w' ⟨rfl, hw'⟩; have hw' := hw'.symm; subst hw'))
                go_ret
                exact ⟨rfl, HG.out⟩
  · have hb : decide (t.size ≤ 1048576) = false := decide_eq_false hn
    go_enter Try.func3, Try.ntmps3
    go_wp2_with (first | (go_at_call 5; refine (bytes5_any _ _ _ ht).mono ?_; rintro e w' ⟨rfl, hw'⟩; have hw' := hw'.symm; subst hw'))
    go_ret
    exact ⟨rfl, Grown.refl _⟩
end Go.Proofs.Qxb6630697a
