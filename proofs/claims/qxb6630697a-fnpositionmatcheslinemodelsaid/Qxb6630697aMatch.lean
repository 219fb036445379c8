import Derived.Test.Qxb6630697aWidth
/- THE WALKS of zzb1RuneCount (8), zzBytes (5), FnPositionMatchesLineModel (3). -/
namespace Go.Proofs.Qxb6630697a
set_option linter.unusedVariables false
set_option linter.unusedSimpArgs false
open Go.RowKit

theorem meas_lt (n i k : Nat) (h : i < n) (hk : 1 ≤ k) (v : Int) (hv : v = ((i + k : Nat) : Int)) : n - (intOf (Value.int IntKind.i64 v)).toNat < n - (intOf (Value.int IntKind.i64 (i : Int))).toNat := by
  subst hv
  show n - (i + k) < n - i
  omega
theorem count_any (s : ByteArray) (w : World) (hN : s.size ≤ 1099511627776) :
    Calls Try.prog 8 #[.string s] w fun e w' => e = .returned (.int .i64 ((rc (bt s) s.size 0 : Nat) : Int)) ∧ w' = w := by
  obtain ⟨R, hR⟩ : ∃ R, R = rc (bt s) s.size 0 := ⟨_, rfl⟩
  rw [← hR]
  have HR := mkHid hR
  clear hR
  go_enter Try.func8, Try.ntmps8
  go_wp2
  go_loopw [3, 4] (fun v v2 wr => ∃ n i : Nat, v = .int .i64 n ∧ v2 = .int .i64 i ∧ n ≤ i ∧ i ≤ s.size ∧ Hid (n + rc (bt s) s.size i = R) ∧ wr = w) (fun _ v2 _ => s.size - (intOf v2).toNat)
  case atStart => exact ⟨0, 0, rfl, rfl, Nat.le_refl _, Nat.zero_le _, by rw [HR.out]; show 0 + _ = _; omega, rfl⟩
  case round =>
    obtain ⟨n, i, rfl, rfl, hni, his, hrc, hwr⟩ := hrel
    have hwr := hwr.symm
    subst hwr
    by_cases hi : i < s.size
    · have hfit := W_fit (bt s) s.size i hi
      have hpos := W_pos (bt s) s.size i
      have hst := rc_step (bt s) s.size i hi
      have hW : ∀ w, _ := fun w => width_any s i w hi hN
      generalize W (bt s) s.size i = k at *
      have HST := mkHid hst
      have HW := mkHid hW
      clear hst hW
      go_wp2_with (first | (go_at_call 10; refine (HW.out _).mono ?_; rintro e w' ⟨rfl, hw'⟩; have hw' := hw'.symm; subst hw'))
      go_roundw
      case rel => exact ⟨n + 1, i + k, by go_num, by go_num, by omega, by omega, by have h1 := hrc.out; have h2 := HST.out; show n + 1 + _ = _; omega, by first | rfl | trivial⟩
      case measure => exact meas_lt s.size i k hi hpos _ (by first | rfl | go_num | omega)
    · have hie : i = s.size := by omega
      subst hie
      have hn : n = R := by have := hrc.out; rw [rc_end _ _ _ (Nat.le_refl _)] at this; omega
      subst hn
      go_wp2
      go_ret
      first | done | exact ⟨rfl, rfl⟩
theorem bytes5_any (t : ByteArray) (x : Value) (w : World) (ht : t.size ≤ maxLen) : Calls Try.prog 5 #[.string t, x] w fun e w' => e = .returned (.bool (decide (t.size ≤ 1048576))) ∧ w' = w := by
  have hmax : (t.size : Int) ≤ 9223372036854775807 := by have : maxLen = 9223372036854775807 := by decide +kernel
                                                         omega
  by_cases h1 : t.size ≤ 1048576
  · rw [decide_eq_true h1]
    have h2 : ¬ ((1048576 : Int) < t.size) := by omega
    go_enter Try.func5, Try.ntmps5
    go_wp2
    go_ret
    first | done | exact ⟨rfl, rfl⟩
  · rw [decide_eq_false h1]
    have h2 : ((1048576 : Int) < t.size) := by omega
    go_enter Try.func5, Try.ntmps5
    go_wp2
    go_ret
    first | done | exact ⟨rfl, rfl⟩
theorem mid_size (t : ByteArray) (a e : Nat) (h : e ≤ t.size) : (t.extract a e).size = e - a := by
  rw [ByteArray.size_extract]; omega
theorem mid_get (t : ByteArray) (a e j : Nat) (h : e ≤ t.size) (hj : j < e - a) : bt (t.extract a e) j = bt t (a + j) := by
  unfold bt
  have h1 : j < (t.extract a e).size := by rw [mid_size t a e h]; exact hj
  have e1 : (t.extract a e).get! j = (t.extract a e)[j]'h1 := get_at _ j h1
  have e2 : t.get! (a + j) = t[a + j]'(by omega) := get_at t (a + j) (by omega)
  rw [e1, e2]
  congr 1
  rw [ByteArray.getElem_extract]
theorem mid_rc (t : ByteArray) (a e : Nat) (h : e ≤ t.size) (hae : a ≤ e) : rc (bt (t.extract a e)) (t.extract a e).size 0 = rc (bt t) e a := by
  rw [mid_size t a e h]
  have := rc_move (bt t) (bt (t.extract a e)) a (e - a) (fun j hj => (mid_get t a e j h hj).symm) _ 0 (Nat.le_refl _)
  rw [show a + (e - a) = e by omega, Nat.add_zero] at this
  exact this.symm
theorem st_en (B : Nat → Nat) (N off : Nat) : st B N off ≤ en B N off := by
  have h1 := st_le B N off
  unfold en
  by_cases e : 0 < off ∧ off < N ∧ B (off - 1) = 13 ∧ B off = 10
  · rw [if_pos e]
    by_cases e2 : st B N off = off
    · have := st_LE B N off (by omega)
      rw [e2] at this
      have h2 := (LE_iff B N (off - 1)).1 this
      rw [show off - 1 + 1 = off by omega] at h2
      omega
    · omega
  · rw [if_neg e]; exact h1
end Go.Proofs.Qxb6630697a
