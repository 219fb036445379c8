import Derived.Test.Qxb6630697aWalk
/- THE WALKS of zzb1Width (10), zzb1RuneCount (8). -/
namespace Go.Proofs.Qxb6630697a
set_option linter.unusedVariables false
set_option linter.unusedSimpArgs false
open Go.RowKit

theorem up_lt (n k : Nat) (h : k < n) : n - (intOf (Value.int IntKind.i64 ((k : Int) + 1))).toNat < n - (intOf (Value.int IntKind.i64 (k : Int))).toNat := by
  show n - ((k : Int) + 1).toNat < n - ((k : Int)).toNat
  omega
/-- What the first byte asks for: how many bytes more; between which bounds the second. -/
def SW (b need lo hi : Nat) : Prop :=
  (194 ≤ b ∧ b < 224 ∧ need = 1 ∧ lo = 128 ∧ hi = 191) ∨ (b = 224 ∧ need = 2 ∧ lo = 160 ∧ hi = 191) ∨
  (((225 ≤ b ∧ b < 237) ∨ (238 ≤ b ∧ b < 240)) ∧ need = 2 ∧ lo = 128 ∧ hi = 191) ∨ (b = 237 ∧ need = 2 ∧ lo = 128 ∧ hi = 159) ∨
  (b = 240 ∧ need = 3 ∧ lo = 144 ∧ hi = 191) ∨ (241 ≤ b ∧ b < 244 ∧ need = 3 ∧ lo = 128 ∧ hi = 191) ∨ (b = 244 ∧ need = 3 ∧ lo = 128 ∧ hi = 143)
theorem sw_of {b need lo hi : Nat} (h : (194 ≤ b ∧ b < 224 ∧ need = 1 ∧ lo = 128 ∧ hi = 191) ∨ (b = 224 ∧ need = 2 ∧ lo = 160 ∧ hi = 191) ∨
  (((225 ≤ b ∧ b < 237) ∨ (238 ≤ b ∧ b < 240)) ∧ need = 2 ∧ lo = 128 ∧ hi = 191) ∨ (b = 237 ∧ need = 2 ∧ lo = 128 ∧ hi = 159) ∨
  (b = 240 ∧ need = 3 ∧ lo = 144 ∧ hi = 191) ∨ (241 ≤ b ∧ b < 244 ∧ need = 3 ∧ lo = 128 ∧ hi = 191) ∨ (b = 244 ∧ need = 3 ∧ lo = 128 ∧ hi = 143)) : Hid (SW b need lo hi) := h
theorem SW.slow {b need lo hi : Nat} (h : SW b need lo hi) (n b1 b2 b3 : Nat) (hn : 1 ≤ n) (h1 : b1 < 256) (h2 : b2 < 256) (h3 : b3 < 256) : Lib.slowN n b b1 b2 b3 (need + 1) lo hi = Lib.decodeN n b b1 b2 b3 := by
  rcases h with ⟨e1, e2, rfl, rfl, rfl⟩ | ⟨e1, rfl, rfl, rfl⟩ | ⟨e1, rfl, rfl, rfl⟩ | ⟨e1, rfl, rfl, rfl⟩ | ⟨e1, rfl, rfl, rfl⟩ | ⟨e1, e2, rfl, rfl, rfl⟩ | ⟨e1, rfl, rfl, rfl⟩
  · exact Lib.slow_C2 n b b1 b2 b3 hn h1 h2 h3 ⟨e1, e2⟩
  · exact Lib.slow_E0 n b b1 b2 b3 hn h1 h2 h3 e1
  · exact Lib.slow_E1 n b b1 b2 b3 hn h1 h2 h3 e1
  · exact Lib.slow_ED n b b1 b2 b3 hn h1 h2 h3 e1
  · exact Lib.slow_F0 n b b1 b2 b3 hn h1 h2 h3 e1
  · exact Lib.slow_F1 n b b1 b2 b3 hn h1 h2 h3 ⟨e1, e2⟩
  · exact Lib.slow_F4 n b b1 b2 b3 hn h1 h2 h3 e1
theorem bad_first (n b b1 b2 b3 : Nat) (h : (128 ≤ b ∧ b < 194) ∨ 244 < b) (hb : b < 256) : (Lib.decodeN n b b1 b2 b3).2 = 1 := by
  rw [Lib.bad_eq n b b1 b2 b3 hb (by unfold Lib.firstT; repeat' split
                                     all_goals omega)]

theorem slow_short (n b b1 b2 b3 need lo hi : Nat) (h : n < need + 1) : (Lib.slowN n b b1 b2 b3 (need + 1) lo hi).2 = 1 := by
  unfold Lib.slowN; rw [if_pos h]
theorem slow_b1 (n b b1 b2 b3 need lo hi : Nat) (h : b1 < lo ∨ hi < b1) : (Lib.slowN n b b1 b2 b3 (need + 1) lo hi).2 = 1 := by
  unfold Lib.slowN; rw [if_pos h]; split <;> rfl
theorem slow_bad (B : Nat → Nat) (n b i q need lo hi : Nat) (h1 : 2 ≤ q) (h2 : q ≤ need) (h3 : need ≤ 3) (hq : ∀ r, 2 ≤ r → r < q → 128 ≤ B (i + r) ∧ B (i + r) ≤ 191) (h : B (i + q) < 128 ∨ 191 < B (i + q)) :
    (Lib.slowN n b (B (i + 1)) (B (i + 2)) (B (i + 3)) (need + 1) lo hi).2 = 1 := by
  unfold Lib.slowN
  by_cases e : q = 2
  · subst e
    rw [if_neg (show ¬ need + 1 ≤ 2 by omega), if_pos h]
    split <;> (try rfl)
    split <;> rfl
  · have e3 : q = 3 := by omega
    subst e3
    have h2' := hq 2 (by omega) (by omega)
    rw [if_neg (show ¬ need + 1 ≤ 2 by omega), if_neg (show ¬ (B (i + 2) < 128 ∨ 191 < B (i + 2)) by omega), if_neg (show ¬ need + 1 ≤ 3 by omega), if_pos h]
    split <;> (try rfl)
    split <;> rfl
theorem slow_good (B : Nat → Nat) (n b i need lo hi : Nat) (h0 : 1 ≤ need) (h3 : need ≤ 3) (hn : need + 1 ≤ n) (h1 : lo ≤ B (i + 1)) (h2 : B (i + 1) ≤ hi) (hq : ∀ r, 2 ≤ r → r ≤ need → 128 ≤ B (i + r) ∧ B (i + r) ≤ 191) :
    (Lib.slowN n b (B (i + 1)) (B (i + 2)) (B (i + 3)) (need + 1) lo hi).2 = need + 1 := by
  unfold Lib.slowN
  rw [if_neg (show ¬ n < need + 1 by omega), if_neg (show ¬ (B (i + 1) < lo ∨ hi < B (i + 1)) by omega)]
  by_cases e1 : need = 1
  · subst e1; rfl
  · have k2 := hq 2 (by omega) (by omega)
    rw [if_neg (show ¬ need + 1 ≤ 2 by omega), if_neg (show ¬ (B (i + 2) < 128 ∨ 191 < B (i + 2)) by omega)]
    by_cases e2 : need = 2
    · subst e2; rfl
    · have k3 := hq 3 (by omega) (by omega)
      have e3 : need = 3 := by omega
      rw [if_neg (show ¬ need + 1 ≤ 3 by omega), if_neg (show ¬ (B (i + 3) < 128 ∨ 191 < B (i + 3)) by omega), e3]
theorem SW.bounds {b need lo hi : Nat} (h : SW b need lo hi) : 1 ≤ need ∧ need ≤ 3 := by unfold SW at h; omega

set_option maxRecDepth 20000 in
set_option maxHeartbeats 4000000 in
theorem width_any (s : ByteArray) (i : Nat) (w : World) (hi : i < s.size) (hN : s.size ≤ 1099511627776) :
    Calls Try.prog 10 #[.string s, .int .i64 (i : Int)] w fun e w' => e = .returned (.int .i64 ((W (bt s) s.size i : Nat) : Int)) ∧ w' = w := by
  have hx := ixs s i hi
  obtain ⟨b, hb⟩ : ∃ b, b = bt s i := ⟨_, rfl⟩
  rw [← hb] at hx
  have hb256 : b < 256 := by rw [hb]; exact bt_lt _ _
  have HB := mkHid hb
  clear hb
  by_cases h1 : (b : Int) < 128
  · rw [show W (bt s) s.size i = 1 from W_ascii _ _ _ (by have := HB.out; omega)]
    go_enter Try.func10, Try.ntmps10
    go_wp2
    go_ret
    first | done | exact ⟨rfl, rfl⟩
  · obtain ⟨V, hVV⟩ : ∃ V, V = W (bt s) s.size i := ⟨_, rfl⟩
    rw [← hVV]
    have HVW := mkHid hVV
    clear hVV
    go_enter Try.func10, Try.ntmps10
    go_upto_block 0 with (fail)
    go_cut [5, 6, 7, 8] (fun v5 v6 v7 v8 wc => ∃ need lo hi : Nat, v5 = .int .u8 (b : Int) ∧ v6 = .int .i64 need ∧ v7 = .int .u8 lo ∧ v8 = .int .u8 hi ∧ Hid (SW b need lo hi) ∧ wc = w)
    case first =>
      have hcl : (128 ≤ b ∧ b < 194) ∨ (194 ≤ b ∧ b < 224) ∨ b = 224 ∨ (225 ≤ b ∧ b < 237) ∨ b = 237 ∨ b = 238 ∨ b = 239 ∨ b = 240 ∨ (241 ≤ b ∧ b < 244) ∨ b = 244 ∨ (245 ≤ b ∧ b < 256) := by omega
      rcases hcl with hc | hc | hc | hc | hc | hc | hc | hc | hc | hc | hc
      · obtain ⟨c1, c2⟩ := hc
        have HBAD := mkHid (fun n b1 b2 b3 => bad_first n b b1 b2 b3 (by omega) hb256)
        have f224 : ((b : Int) == 224) = false := by rw [beq_eq_false_iff_ne]; omega
        have g224 : ((b : Int) = 224) = False := eq_false (by omega)
        have f237 : ((b : Int) == 237) = false := by rw [beq_eq_false_iff_ne]; omega
        have g237 : ((b : Int) = 237) = False := eq_false (by omega)
        have f238 : ((b : Int) == 238) = false := by rw [beq_eq_false_iff_ne]; omega
        have g238 : ((b : Int) = 238) = False := eq_false (by omega)
        have f239 : ((b : Int) == 239) = false := by rw [beq_eq_false_iff_ne]; omega
        have g239 : ((b : Int) = 239) = False := eq_false (by omega)
        have f240 : ((b : Int) == 240) = false := by rw [beq_eq_false_iff_ne]; omega
        have g240 : ((b : Int) = 240) = False := eq_false (by omega)
        have f244 : ((b : Int) == 244) = false := by rw [beq_eq_false_iff_ne]; omega
        have g244 : ((b : Int) = 244) = False := eq_false (by omega)
        go_wp2
        go_ret
        refine ⟨?_, rfl⟩
        rw [show V = 1 from by have e := HB.out; rw [HVW.out]; unfold W DB; rw [← e]; exact HBAD.out _ _ _ _]
        rfl
      · obtain ⟨c1, c2⟩ := hc
        have HSW := mkHid (show SW b 1 128 191 by unfold SW; omega)
        have f224 : ((b : Int) == 224) = false := by rw [beq_eq_false_iff_ne]; omega
        have g224 : ((b : Int) = 224) = False := eq_false (by omega)
        have f237 : ((b : Int) == 237) = false := by rw [beq_eq_false_iff_ne]; omega
        have g237 : ((b : Int) = 237) = False := eq_false (by omega)
        have f238 : ((b : Int) == 238) = false := by rw [beq_eq_false_iff_ne]; omega
        have g238 : ((b : Int) = 238) = False := eq_false (by omega)
        have f239 : ((b : Int) == 239) = false := by rw [beq_eq_false_iff_ne]; omega
        have g239 : ((b : Int) = 239) = False := eq_false (by omega)
        have f240 : ((b : Int) == 240) = false := by rw [beq_eq_false_iff_ne]; omega
        have g240 : ((b : Int) = 240) = False := eq_false (by omega)
        have f244 : ((b : Int) == 244) = false := by rw [beq_eq_false_iff_ne]; omega
        have g244 : ((b : Int) = 244) = False := eq_false (by omega)
        go_wp2
        go_meet
        case rel => exact ⟨1, 128, 191, rfl, rfl, rfl, rfl, HSW.out, by first | rfl | trivial⟩
      · subst hc
        have HSW := mkHid (show SW 224 2 160 191 by unfold SW; omega)
        go_wp2
        go_meet
        case rel => exact ⟨2, 160, 191, rfl, rfl, rfl, rfl, HSW.out, by first | rfl | trivial⟩
      · obtain ⟨c1, c2⟩ := hc
        have HSW := mkHid (show SW b 2 128 191 by unfold SW; omega)
        have f224 : ((b : Int) == 224) = false := by rw [beq_eq_false_iff_ne]; omega
        have g224 : ((b : Int) = 224) = False := eq_false (by omega)
        have f237 : ((b : Int) == 237) = false := by rw [beq_eq_false_iff_ne]; omega
        have g237 : ((b : Int) = 237) = False := eq_false (by omega)
        have f238 : ((b : Int) == 238) = false := by rw [beq_eq_false_iff_ne]; omega
        have g238 : ((b : Int) = 238) = False := eq_false (by omega)
        have f239 : ((b : Int) == 239) = false := by rw [beq_eq_false_iff_ne]; omega
        have g239 : ((b : Int) = 239) = False := eq_false (by omega)
        have f240 : ((b : Int) == 240) = false := by rw [beq_eq_false_iff_ne]; omega
        have g240 : ((b : Int) = 240) = False := eq_false (by omega)
        have f244 : ((b : Int) == 244) = false := by rw [beq_eq_false_iff_ne]; omega
        have g244 : ((b : Int) = 244) = False := eq_false (by omega)
        go_wp2
        go_meet
        case rel => exact ⟨2, 128, 191, rfl, rfl, rfl, rfl, HSW.out, by first | rfl | trivial⟩
      · subst hc
        have HSW := mkHid (show SW 237 2 128 159 by unfold SW; omega)
        go_wp2
        go_meet
        case rel => exact ⟨2, 128, 159, rfl, rfl, rfl, rfl, HSW.out, by first | rfl | trivial⟩
      · subst hc
        have HSW := mkHid (show SW 238 2 128 191 by unfold SW; omega)
        go_wp2
        go_meet
        case rel => exact ⟨2, 128, 191, rfl, rfl, rfl, rfl, HSW.out, by first | rfl | trivial⟩
      · subst hc
        have HSW := mkHid (show SW 239 2 128 191 by unfold SW; omega)
        go_wp2
        go_meet
        case rel => exact ⟨2, 128, 191, rfl, rfl, rfl, rfl, HSW.out, by first | rfl | trivial⟩
      · subst hc
        have HSW := mkHid (show SW 240 3 144 191 by unfold SW; omega)
        go_wp2
        go_meet
        case rel => exact ⟨3, 144, 191, rfl, rfl, rfl, rfl, HSW.out, by first | rfl | trivial⟩
      · obtain ⟨c1, c2⟩ := hc
        have HSW := mkHid (show SW b 3 128 191 by unfold SW; omega)
        have f224 : ((b : Int) == 224) = false := by rw [beq_eq_false_iff_ne]; omega
        have g224 : ((b : Int) = 224) = False := eq_false (by omega)
        have f237 : ((b : Int) == 237) = false := by rw [beq_eq_false_iff_ne]; omega
        have g237 : ((b : Int) = 237) = False := eq_false (by omega)
        have f238 : ((b : Int) == 238) = false := by rw [beq_eq_false_iff_ne]; omega
        have g238 : ((b : Int) = 238) = False := eq_false (by omega)
        have f239 : ((b : Int) == 239) = false := by rw [beq_eq_false_iff_ne]; omega
        have g239 : ((b : Int) = 239) = False := eq_false (by omega)
        have f240 : ((b : Int) == 240) = false := by rw [beq_eq_false_iff_ne]; omega
        have g240 : ((b : Int) = 240) = False := eq_false (by omega)
        have f244 : ((b : Int) == 244) = false := by rw [beq_eq_false_iff_ne]; omega
        have g244 : ((b : Int) = 244) = False := eq_false (by omega)
        go_wp2
        go_meet
        case rel => exact ⟨3, 128, 191, rfl, rfl, rfl, rfl, HSW.out, by first | rfl | trivial⟩
      · subst hc
        have HSW := mkHid (show SW 244 3 128 143 by unfold SW; omega)
        go_wp2
        go_meet
        case rel => exact ⟨3, 128, 143, rfl, rfl, rfl, rfl, HSW.out, by first | rfl | trivial⟩
      · obtain ⟨c1, c2⟩ := hc
        have HBAD := mkHid (fun n b1 b2 b3 => bad_first n b b1 b2 b3 (by omega) hb256)
        have f224 : ((b : Int) == 224) = false := by rw [beq_eq_false_iff_ne]; omega
        have g224 : ((b : Int) = 224) = False := eq_false (by omega)
        have f237 : ((b : Int) == 237) = false := by rw [beq_eq_false_iff_ne]; omega
        have g237 : ((b : Int) = 237) = False := eq_false (by omega)
        have f238 : ((b : Int) == 238) = false := by rw [beq_eq_false_iff_ne]; omega
        have g238 : ((b : Int) = 238) = False := eq_false (by omega)
        have f239 : ((b : Int) == 239) = false := by rw [beq_eq_false_iff_ne]; omega
        have g239 : ((b : Int) = 239) = False := eq_false (by omega)
        have f240 : ((b : Int) == 240) = false := by rw [beq_eq_false_iff_ne]; omega
        have g240 : ((b : Int) = 240) = False := eq_false (by omega)
        have f244 : ((b : Int) == 244) = false := by rw [beq_eq_false_iff_ne]; omega
        have g244 : ((b : Int) = 244) = False := eq_false (by omega)
        go_wp2
        go_ret
        refine ⟨?_, rfl⟩
        rw [show V = 1 from by have e := HB.out; rw [HVW.out]; unfold W DB; rw [← e]; exact HBAD.out _ _ _ _]
        rfl
    case rest =>
      obtain ⟨need, lo, hi', rfl, rfl, rfl, rfl, hSW, hwc⟩ := hcut
      have hwc := hwc.symm
      subst hwc
      have hV : W (bt s) s.size i = (Lib.slowN (s.size - i) b (bt s (i + 1)) (bt s (i + 2)) (bt s (i + 3)) (need + 1) lo hi').2 := by
        rw [hSW.out.slow (s.size - i) _ _ _ (by omega) (bt_lt _ _) (bt_lt _ _) (bt_lt _ _), HB.out]; rfl
      rw [← HVW.out] at hV
      have HV := mkHid hV
      have hnb := hSW.out.bounds
      obtain ⟨hn1, hn3⟩ := hnb
      clear hV hx
      clear HVW
      by_cases k1 : (s.size : Int) ≤ (i : Int) + need
      · have hv : V = 1 := by rw [HV.out]; exact slow_short _ _ _ _ _ _ _ _ (by omega)
        subst hv
        go_wp2
        go_ret
        first | done | exact ⟨rfl, rfl⟩
      · have hx1 := ixs s (i + 1) (by omega)
        have hj1 : ((i + 1 : Nat) : Int) = (i : Int) + 1 := by omega
        rw [hj1] at hx1
        clear hj1
        obtain ⟨b1, hb1⟩ : ∃ b1, b1 = bt s (i + 1) := ⟨_, rfl⟩
        rw [← hb1] at hx1
        have HB1 := mkHid hb1
        clear hb1
        by_cases k2 : (b1 : Int) < lo
        · have hv : V = 1 := by rw [HV.out]; exact slow_b1 _ _ _ _ _ _ _ _ (by have := HB1.out; omega)
          subst hv
          go_wp2
          go_ret
          first | done | exact ⟨rfl, rfl⟩
        · by_cases k3 : (hi' : Int) < b1
          · have hv : V = 1 := by rw [HV.out]; exact slow_b1 _ _ _ _ _ _ _ _ (by have := HB1.out; omega)
            subst hv
            go_wp2
            go_ret
            first | done | exact ⟨rfl, rfl⟩
          · go_wp2
            go_loop [10] (fun v => ∃ m : Nat, 2 ≤ m ∧ m ≤ need + 1 ∧ v = .int .i64 m ∧ Hid (∀ r, 2 ≤ r → r < m → 128 ≤ bt s (i + r) ∧ bt s (i + r) ≤ 191)) (fun v => 4 - (intOf v).toNat)
            case atStart => exact ⟨2, by omega, by omega, rfl, fun r h1 h2 => by omega⟩
            case round =>
              obtain ⟨m, hm2, hm, rfl, hall⟩ := hrel
              by_cases hmn : m ≤ need
              · have hxm := ixs s (i + m) (by omega)
                have hj1 : ((i + m : Nat) : Int) = (i : Int) + m := by omega
                rw [hj1] at hxm
                clear hj1
                obtain ⟨c, hc⟩ : ∃ c, c = bt s (i + m) := ⟨_, rfl⟩
                rw [← hc] at hxm
                have HC := mkHid hc
                clear hc
                by_cases c1 : (c : Int) < 128
                · have hv : V = 1 := by rw [HV.out]; exact slow_bad (bt s) _ _ i m need _ _ hm2 hmn hn3 hall.out (by have := HC.out; omega)
                  subst hv
                  go_wp2
                  go_ret
                  first | done | exact ⟨rfl, rfl⟩
                · by_cases c2 : (191 : Int) < c
                  · have hv : V = 1 := by rw [HV.out]; exact slow_bad (bt s) _ _ i m need _ _ hm2 hmn hn3 hall.out (by have := HC.out; omega)
                    subst hv
                    go_wp2
                    go_ret
                    first | done | exact ⟨rfl, rfl⟩
                  · go_wp2
                    go_round
                    case rel => exact ⟨m + 1, by omega, by omega, by go_num, fun r h1 h2 => by
                      by_cases e : r < m
                      · exact hall.out r h1 e
                      · have e2 : r = m := by omega
                        rw [e2, ← HC.out]; omega⟩
                    case measure => exact up_lt 4 m (by omega)
              · have hme : m = need + 1 := by omega
                subst hme
                have hv : V = need + 1 := by
                  rw [HV.out]
                  have := HB1.out
                  exact slow_good (bt s) _ _ i need _ _ hn1 hn3 (by omega) (by omega) (by omega) (fun r h1 h2 => hall.out r h1 (by omega))
                subst hv
                go_wp2
                go_ret
                first | done | exact ⟨by go_num, rfl⟩
end Go.Proofs.Qxb6630697a
