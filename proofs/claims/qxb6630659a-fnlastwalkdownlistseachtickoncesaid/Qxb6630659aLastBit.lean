import Derived.Test.Qxb6630659aBits
import Derived.Test.Qxb6630659aPlain
import Derived.WalkKit
import Derived.WalkSpells
import Derived.WalkLawsBesides
import Derived.BigQuiet
import Derived.Deep.RegionWith
import Derived.Deep.DeepCutAuto
/- THE WALK of lastBit (12). -/
namespace Go.Proofs.Qxb6630659a
set_option linter.unusedVariables false
set_option linter.unusedSimpArgs false
open Go.RowKit

theorem mkHid {p : Prop} (h : p) : Hid p := h
def wv (f : Nat → Bool) : Value := .int .u64 ((word f : Nat) : Int)
/-- What lastBit answers. -/
def LB (f : Nat → Bool) (fr tt i : Int) (ok : Bool) : Prop :=
  (ok = true → fr ≤ i ∧ i ≤ tt ∧ f i.toNat = true ∧ ∀ j : Nat, i < j → (j : Int) ≤ tt → f j = false) ∧ (ok = false → ∀ j : Nat, fr ≤ j → (j : Int) ≤ tt → f j = false)
def LBpost (f : Nat → Bool) (fr tt : Int) (e : Ending) : Prop := ∃ i ok, e = .returned (.tuple #[.int .i64 i, .bool ok]) ∧ LB f fr tt i ok

theorem ix32 (g n cap : Nat) : ∀ (k : Nat), k < n → ∀ W, (Instr.indexAt 32 (.slice (some ⟨g, 0, none⟩) n cap) (.int .i64 k)).run Try.prog W = .ok (.pointer (some ⟨g, k, none⟩)) W := by
  intro k hk W
  have h2 : (0 : Int) ≤ k := by omega
  have h3 : (k : Int) < n := by omega
  go_simp

theorem wv_ext (f g : Nat → Bool) (h : ∀ j, j < 64 → f j = g j) : wv f = wv g := by unfold wv; rw [word_ext f g h]
theorem and_mask (f : Nat → Bool) (T : Nat) : ∀ W, (binOp .and 34 (wv f) (.int .u64 (18446744073709551615 / 2 ^ (63 - T % 64)))).run Try.prog W = .ok (wv (fun j => f j && decide (j < T % 64 + 1))) W := by
  intro W
  have e : (18446744073709551615 : Int) / 2 ^ (63 - T % 64) = ((2 ^ (T % 64 + 1) - 1 : Nat) : Int) := by
    have h : T % 64 < 64 := Nat.mod_lt _ (by omega)
    generalize T % 64 = r at h ⊢
    have : ∀ r : Fin 64, (18446744073709551615 : Int) / 2 ^ (63 - r.val) = ((2 ^ (r.val + 1) - 1 : Nat) : Int) := by decide +kernel
    exact this ⟨r, h⟩
  rw [e]
  have hb : 2 ^ (T % 64 + 1) - 1 < 18446744073709551616 := by
    have : 2 ^ (T % 64 + 1) ≤ 2 ^ 64 := Nat.pow_le_pow_right (by omega) (by have := Nat.mod_lt T (show 0 < 64 by omega); omega)
    omega
  have hx := bits_and_u64_nat (word f) (2 ^ (T % 64 + 1) - 1) (word_lt f) hb
  rw [word_mask] at hx
  unfold wv
  rw [← hx]
  go_simp
theorem neq_zero (f : Nat → Bool) : ∀ W, (binOp .neq 34 (wv f) (.int .u64 0)).run Try.prog W = .ok (.bool (word f != 0)) W := by
  intro W
  unfold wv
  have e : (((word f : Nat) : Int) != 0) = (word f != 0) := by
    rw [Bool.eq_iff_iff]; simp
  rw [← e]
  go_simp
theorem neq_guard (f : Nat → Bool) : ∀ (x y : Operand) (W : World), (eqGuard .neq 34 x y (wv f) (.int .u64 0)).run Try.prog W = .ok () W := by
  intro x y W
  unfold wv
  go_simp
theorem lzw_any (f : Nat → Bool) (L : Nat) (w : World) (hL : Lib.bitLen (word f) = L) (h : True) : Calls Try.prog 13 #[wv f] w fun e w' => e = .returned (.int .i64 (64 - (L : Int))) ∧ w' = w := by
  have := lz64_any ((word f : Nat) : Int) w (by omega) (by have := word_lt f; omega)
  rw [Int.toNat_natCast, hL] at this
  exact this

theorem LB_hit (f f' : Nat → Bool) (k L F T : Nat) (hf : f' = fun j => f (k * 64 + j) && decide (k * 64 + j ≤ T)) (h1 : 1 ≤ L) (h2 : L ≤ 64) (h3 : f' (L - 1) = true) (h4 : ∀ j, L ≤ j → j < 64 → f' j = false)
    (hno : ∀ j, (k + 1) * 64 ≤ j → j ≤ T → f j = false) : LB f F T ((k : Int) * 64 + 63 - (64 - (L : Int))) (decide ((F : Int) ≤ (k : Int) * 64 + 63 - (64 - (L : Int)))) := by
  have ei : (k : Int) * 64 + 63 - (64 - (L : Int)) = ((k * 64 + (L - 1) : Nat) : Int) := by omega
  rw [ei]
  subst hf
  simp only [Bool.and_eq_true, decide_eq_true_eq] at h3
  have hall : ∀ j : Nat, k * 64 + (L - 1) < j → j ≤ T → f j = false := by
    intro j hj hjT
    by_cases h5 : (k + 1) * 64 ≤ j
    · exact hno j h5 hjT
    · have := h4 (j - k * 64) (by omega) (by omega)
      have e : k * 64 + (j - k * 64) = j := by omega
      simpa [e, hjT] using this
  refine ⟨fun hok => ⟨by simpa using hok, by omega, by rw [Int.toNat_natCast]; exact h3.1, fun j hj hjT => hall j (by omega) (by omega)⟩, fun hok j hj hjT => ?_⟩
  have : ¬ ((F : Int) ≤ ((k * 64 + (L - 1) : Nat) : Int)) := by simpa using hok
  exact hall j (by omega) (by omega)

set_option maxRecDepth 20000 in
theorem lastBit_any (f : Nat → Bool) (g n cap F T : Nat) (w : World) (hFT : F ≤ T) (hT : T < 64 * n) (hn : n ≤ 64)
    (hcell : ∀ i, i < n → w.cell? ⟨g, i, none⟩ = some (wv fun j => f (i * 64 + j))) :
    Calls Try.prog 12 #[.slice (some ⟨g, 0, none⟩) n cap, .int .i64 F, .int .i64 T] w fun e w' => LBpost f F T e ∧ w' = w := by
  have hix := ix32 g n cap
  have h13 : ¬ ((T : Int) < F) := by omega
  go_enter Try.func12, Try.ntmps12
  go_wp2
  go_loop [8] (fun v => ∃ m : Nat, m ≤ T / 64 + 1 ∧ v = .int .i64 ((m : Int) - 1) ∧ Hid (∀ j, m * 64 ≤ j → j ≤ T → f j = false)) (fun v => (intOf v + 1).toNat)
  case atStart => exact ⟨T / 64 + 1, Nat.le_refl _, by go_num, fun j h1 h2 => by omega⟩
  case round =>
    obtain ⟨m, hm, hv, hno⟩ := hrel
    subst hv
    cases m with
    | zero =>
      go_wp2
      go_ret2
      exact ⟨⟨0, false, rfl, (fun h => by simp at h), fun _ j h1 h2 => hno.out j (by omega) (by omega)⟩, rfl⟩
    | succ k =>
      have e1 : ((k + 1 : Nat) : Int) - 1 = (k : Int) := by omega
      rw [e1]
      by_cases hlt : F / 64 ≤ k
      · have hkn : k < n := by omega
        have hc := hcell k hkn
        have hx1 := hix k hkn
        have hq : ¬ ((k : Int) < (F : Int) / 64) := by omega
        clear hcell hix
        have hand := and_mask (fun j => f (k * 64 + j)) T
        go_upto_if 29 with (fail)
        go_cut [9] (fun s wc => s = wv (fun j => f (k * 64 + j) && decide (k * 64 + j ≤ T)) ∧ wc = w)
        case first =>
          by_cases hk : k = T / 64
          · have hk1 : ((k : Int) = (T : Int) / 64) = True := eq_true (by omega)
            have hk2 : ((k : Int) == (T : Int) / 64) = true := by simp; omega
            have HK := mkHid hk
            clear hk
            go_wp2
            go_meet
            case rel => exact ⟨wv_ext _ _ (fun j hj => by
              have := HK.out
              have e : decide (j < T % 64 + 1) = decide (k * 64 + j ≤ T) := by rw [decide_eq_decide]; omega
              rw [e]), rfl⟩
          · have hk1 : ((k : Int) = (T : Int) / 64) = False := eq_false (by omega)
            have hk2 : ((k : Int) == (T : Int) / 64) = false := by simp; omega
            go_wp2
            go_meet
            case rel => exact ⟨wv_ext _ _ (fun j hj => by
              have e : decide (k * 64 + j ≤ T) = true := decide_eq_true (by omega)
              rw [e, Bool.and_true]), rfl⟩
        case rest =>
          obtain ⟨rfl, hwc⟩ := hcut
          have hwc := hwc.symm
          subst hwc
          obtain ⟨f', hf'⟩ : ∃ f' : Nat → Bool, f' = fun j => f (k * 64 + j) && decide (k * 64 + j ≤ T) := ⟨_, rfl⟩
          rw [← hf']
          have HF := mkHid hf'
          have hne := neq_zero f'
          have hneg := neq_guard f'
          clear hf' hc hand
          cases hz : (word f' != 0)
          · have hz0 : word f' = 0 := by simpa using hz
            have HZ := mkHid hz0
            clear hz0
            go_wp2
            go_round
            case rel =>
              refine ⟨k, by omega, by go_num, fun j h1 h2 => ?_⟩
              by_cases h3 : (k + 1) * 64 ≤ j
              · exact hno.out j h3 h2
              · have := (word_zero f').1 HZ.out (j - k * 64) (by omega)
                rw [HF.out] at this
                have e : k * 64 + (j - k * 64) = j := by omega
                simpa [e, h2] using this
            case measure => simp [intOf]
          · have hz0 : word f' ≠ 0 := by simpa using hz
            obtain ⟨t1, t2, t3, t4⟩ := word_top f' hz0
            have HT3 := mkHid t3
            have HT4 := mkHid t4
            clear t3 t4 hz0
            generalize hL : Lib.bitLen (word f') = L at *
            have HL := mkHid hL
            clear hL
            go_wp2_with (first | (go_at_call 13; refine (lzw_any f' L _ HL.out trivial).mono ?_; rintro e w' ⟨rfl, hw'⟩; have hw' := hw'.symm; subst hw'))
            go_ret2
            exact ⟨⟨_, _, rfl, LB_hit f f' k L F T HF.out t1 t2 HT3.out HT4.out hno.out⟩, rfl⟩
      · have hq : (k : Int) < (F : Int) / 64 := by omega
        go_wp2
        go_ret2
        exact ⟨⟨0, false, rfl, (fun h => by simp at h), fun _ j h1 h2 => hno.out j (by omega) (by omega)⟩, rfl⟩
end Go.Proofs.Qxb6630659a
