import Derived.Test.Qxb6630552aProg
import Derived.WalkKit
import Derived.WalkSpells
import Derived.WalkLawsBesides
import Derived.BigQuiet
import Derived.Deep.RegionWith
namespace Go.Proofs.Qxb6630552a
set_option linter.unusedVariables false
set_option linter.unusedSimpArgs false
open Go.RowKit

/-- All old cells and marks read as before. -/
theorem bcell {W w1 : World} (hb : Below W.heap.size W w1) : (∀ b o, b < W.heap.size → w1.cell? ⟨b, o, none⟩ = W.cell? ⟨b, o, none⟩) ∧ (∀ b o, b < W.heap.size → w1.frozen? ⟨b, o, none⟩ = W.frozen? ⟨b, o, none⟩) :=
  ⟨fun b o h => hb.cell (p := ⟨b, o, none⟩) h, fun b o h => hb.frozen (p := ⟨b, o, none⟩) h⟩

theorem below_then {w W w1 : World} (h : Below w.heap.size w W) (k : Below W.heap.size W w1) : Below w.heap.size w w1 := h.trans (k.mono h.size)
theorem ret_int {k : IntKind} {a b : Int} (h : a = b) : Ending.returned (.int k a) = .returned (.int k b) := by rw [h]
theorem ret_bool {a b : Bool} (h : a = b) : Ending.returned (.bool a) = .returned (.bool b) := by rw [h]

/-! ### Bits of a wall word without a monotonic reading -/
theorem bits_mono0 (n : Int) (h0 : 0 ≤ n) (h1 : n < 1073741824) : bits .and .u64 n 9223372036854775808 = 0 := by
  obtain ⟨m, rfl⟩ := Int.eq_ofNat_of_zero_le h0
  have h : m < 2 ^ 63 := by omega
  have e := u64_and_nat m 9223372036854775808 (by omega) (by omega)
  have e2 : m &&& 9223372036854775808 = 0 := by
    have := nat_bit 63 m
    rw [show (2:Nat) ^ 63 = 9223372036854775808 from rfl] at this
    rw [this]
    omega
  rw [e2] at e
  exact e
theorem bits_nsec (n : Int) (h0 : 0 ≤ n) (h1 : n < 1073741824) : bits .and .u64 n 1073741823 = n := by
  obtain ⟨m, rfl⟩ := Int.eq_ofNat_of_zero_le h0
  have e := u64_and_nat m 1073741823 (by omega) (by omega)
  have e2 : m &&& 1073741823 = m := by
    have := Nat.and_two_pow_sub_one_eq_mod m 30
    rw [show (2:Nat) ^ 30 - 1 = 1073741823 from rfl] at this
    rw [this]
    omega
  rw [e2] at e
  exact e
theorem bits_clear (n : Int) (h0 : 0 ≤ n) (h1 : n < 1073741824) : bits .andNot .u64 n 1073741823 = 0 := by
  obtain ⟨m, rfl⟩ := Int.eq_ofNat_of_zero_le h0
  have e := u64_andNot_nat m 1073741823 (by omega) (by omega)
  have e2 : m &&& (18446744073709551615 - 1073741823) = 0 := by
    apply Nat.eq_of_testBit_eq
    intro i
    rw [Nat.testBit_and, Nat.zero_testBit]
    by_cases hi : i < 30
    · have : (18446744073709551615 - 1073741823 : Nat) = 2 ^ 30 * 17179869183 := by omega
      rw [this, Nat.testBit_two_pow_mul]
      simp; omega
    · have : m.testBit i = false := Nat.testBit_lt_two_pow (Nat.lt_of_lt_of_le (by omega : m < 2 ^ 30) (Nat.pow_le_pow_right (by omega) (by omega)))
      simp [this]
  rw [e2] at e
  exact e
theorem bits_or0 (n : Int) (h0 : 0 ≤ n) (h1 : n < 1073741824) : bits .or .u64 0 n = n := by
  obtain ⟨m, rfl⟩ := Int.eq_ofNat_of_zero_le h0
  have e := u64_or_nat 0 m (by omega) (by omega)
  rw [Nat.zero_or] at e
  exact e
theorem bits_and_lt (m n : Int) (h0 : 0 ≤ m) (h1 : m < 1073741824) (h2 : 0 ≤ n) (h3 : n < 1073741824) : 0 ≤ bits .and .u64 m n ∧ bits .and .u64 m n < 1073741824 := by
  obtain ⟨a, rfl⟩ := Int.eq_ofNat_of_zero_le h0
  obtain ⟨b, rfl⟩ := Int.eq_ofNat_of_zero_le h2
  have e := u64_and_nat a b (by omega) (by omega)
  rw [e]
  have := Nat.and_le_left (n := a) (m := b)
  omega
theorem mono_no (n : Int) (h0 : 0 ≤ n) (h1 : n < 1073741824) : (bits .and .u64 n 9223372036854775808 != 0) = false := by
  rw [bits_mono0 n h0 h1]; rfl
theorem mono_no2 (m n : Int) (h0 : 0 ≤ m) (h1 : m < 1073741824) (h2 : 0 ≤ n) (h3 : n < 1073741824) : (bits .and .u64 (bits .and .u64 m n) 9223372036854775808 != 0) = false := by
  have := bits_and_lt m n h0 h1 h2 h3
  rw [bits_mono0 _ this.1 this.2]; rfl

theorem sec_any (b off : Nat) (wl ex : Int) (w : World) (h0 : w.cell? ⟨b, off, none⟩ = some (.int .u64 wl)) (h1 : w.cell? ⟨b, off + 1, none⟩ = some (.int .i64 ex))
    (hl : 0 ≤ wl) (hu : wl < 1073741824) :
    Calls Try.prog 39 #[.pointer (some ⟨b, off, none⟩)] w fun e w' => e = .returned (.int .i64 ex) ∧ w' = w := by
  have hm := mono_no wl hl hu
  go_enter Try.func39, Try.ntmps39
  go_wp2
  go_ret
  exact ⟨rfl, rfl⟩

theorem nsec_any (b off : Nat) (wl : Int) (w : World) (h0 : w.cell? ⟨b, off, none⟩ = some (.int .u64 wl))
    (hl : 0 ≤ wl) (hu : wl < 1073741824) :
    Calls Try.prog 40 #[.pointer (some ⟨b, off, none⟩)] w fun e w' => e = .returned (.int .i32 wl) ∧ w' = w := by
  have hm := bits_nsec wl hl hu
  go_enter Try.func40, Try.ntmps40
  go_wp2
  go_ret
  exact ⟨rfl, rfl⟩

theorem addSec_any (b off : Nat) (wl ex d : Int) (w : World) (h0 : w.cell? ⟨b, off, none⟩ = some (.int .u64 wl)) (h1 : w.cell? ⟨b, off + 1, none⟩ = some (.int .i64 ex))
    (hf : w.frozen? ⟨b, off + 1, none⟩ = false)
    (hl : 0 ≤ wl) (hu : wl < 1073741824) (he1 : -4611686018427387904 ≤ ex) (he2 : ex ≤ 4611686018427387904) (hd1 : -4611686018427387904 < d) (hd2 : d < 4611686018427387904) :
    Calls Try.prog 43 #[.pointer (some ⟨b, off, none⟩), .int .i64 d] w fun e w' => e = .returned (.tuple #[]) ∧ w' = w.setCell ⟨b, off + 1, none⟩ (.int .i64 (ex + d)) := by
  have hm := mono_no wl hl hu
  have hq : (decide (ex < ex + d) == decide (0 < d)) = true := by
    rw [beq_iff_eq, decide_eq_decide]; omega
  go_enter Try.func43, Try.ntmps43
  go_wp2
  go_end0
  exact ⟨rfl, rfl⟩

/-- The time that lies t nanoseconds behind the zero time. -/
def tm (t : Int) : Value := .agg #[.int .u64 (t % 1000000000), .int .i64 (t / 1000000000), .pointer none]

theorem add_core (wl ex d : Int) (w : World) (hl : 0 ≤ wl) (hu : wl < 1000000000) (he1 : -4611686018427387904 ≤ ex) (he2 : ex ≤ 4611686018427387904)
    (hd1 : -9223372036854775808 ≤ d) (hd2 : d ≤ 9223372036854775807) :
    Calls Try.prog 34 #[.agg #[.int .u64 wl, .int .i64 ex, .pointer none], .int .i64 d] w fun e w' =>
      e = .returned (.agg #[.int .u64 ((wl + d) % 1000000000), .int .i64 (ex + (wl + d) / 1000000000), .pointer none]) ∧ Below w.heap.size w w' := by
  have hr : Hid (d = 1000000000 * d.tdiv 1000000000 + d.tmod 1000000000) := (Int.mul_tdiv_add_tmod d 1000000000).symm
  have hr1 : d.tmod 1000000000 < 1000000000 := Int.tmod_lt_of_pos d (by omega)
  have hr2 : -1000000000 < d.tmod 1000000000 := by have := Int.lt_tmod_of_pos d (b := 1000000000) (by omega); omega
  have hq1 : -9223372039 < d.tdiv 1000000000 := by have := hr.out; omega
  have hq2 : d.tdiv 1000000000 < 9223372039 := by have := hr.out; omega
  have hclr := bits_clear wl hl (by omega)
  by_cases c1 : 1000000000 ≤ wl + d.tmod 1000000000
  · have ho := bits_or0 (wl + d.tmod 1000000000 - 1000000000) (by omega) (by omega)
    have hm := mono_no (wl + d.tmod 1000000000 - 1000000000) (by omega) (by omega)
    have e1 : Hid ((wl + d) % 1000000000 = wl + d.tmod 1000000000 - 1000000000) := by have := hr.out; unfold Hid; omega
    have e2 : Hid (ex + (wl + d) / 1000000000 = ex + (d.tdiv 1000000000 + 1)) := by have := hr.out; unfold Hid; omega
    go_enter Try.func34, Try.ntmps34
    go_wp2_with (first
      | (go_at_call 40; refine (nsec_any _ _ wl _ (by go_simp) hl (by omega)).mono ?_; rintro e w' ⟨rfl, rfl⟩)
      | (go_at_call 43; refine (addSec_any _ _ (wl + d.tmod 1000000000 - 1000000000) ex _ _ (by go_simp) (by go_simp) (by go_simp) (by omega) (by omega) he1 he2 (by omega) (by omega)).mono ?_; rintro e w' ⟨rfl, rfl⟩))
    refine bodyPost_ret (v := .agg #[.int .u64 (wl + d.tmod 1000000000 - 1000000000), .int .i64 (ex + (d.tdiv 1000000000 + 1)), .pointer none]) (by simp [results, Try.results34, go_sem]) rfl ⟨by rw [e1.out, e2.out], ((Below.refl _ _).alloc (Nat.le_refl _) _).alloc (by simp) _⟩
  by_cases c2 : wl + d.tmod 1000000000 < 0
  · have ho := bits_or0 (wl + d.tmod 1000000000 + 1000000000) (by omega) (by omega)
    have hm := mono_no (wl + d.tmod 1000000000 + 1000000000) (by omega) (by omega)
    have e1 : Hid ((wl + d) % 1000000000 = wl + d.tmod 1000000000 + 1000000000) := by have := hr.out; unfold Hid; omega
    have e2 : Hid (ex + (wl + d) / 1000000000 = ex + (d.tdiv 1000000000 - 1)) := by have := hr.out; unfold Hid; omega
    go_enter Try.func34, Try.ntmps34
    go_wp2_with (first
      | (go_at_call 40; refine (nsec_any _ _ wl _ (by go_simp) hl (by omega)).mono ?_; rintro e w' ⟨rfl, rfl⟩)
      | (go_at_call 43; refine (addSec_any _ _ (wl + d.tmod 1000000000 + 1000000000) ex _ _ (by go_simp) (by go_simp) (by go_simp) (by omega) (by omega) he1 he2 (by omega) (by omega)).mono ?_; rintro e w' ⟨rfl, rfl⟩))
    refine bodyPost_ret (v := .agg #[.int .u64 (wl + d.tmod 1000000000 + 1000000000), .int .i64 (ex + (d.tdiv 1000000000 - 1)), .pointer none]) (by simp [results, Try.results34, go_sem]) rfl ⟨by rw [e1.out, e2.out], ((Below.refl _ _).alloc (Nat.le_refl _) _).alloc (by simp) _⟩
  · have ho := bits_or0 (wl + d.tmod 1000000000) (by omega) (by omega)
    have hm := mono_no (wl + d.tmod 1000000000) (by omega) (by omega)
    have e1 : Hid ((wl + d) % 1000000000 = wl + d.tmod 1000000000) := by have := hr.out; unfold Hid; omega
    have e2 : Hid (ex + (wl + d) / 1000000000 = ex + (d.tdiv 1000000000)) := by have := hr.out; unfold Hid; omega
    go_enter Try.func34, Try.ntmps34
    go_wp2_with (first
      | (go_at_call 40; refine (nsec_any _ _ wl _ (by go_simp) hl (by omega)).mono ?_; rintro e w' ⟨rfl, rfl⟩)
      | (go_at_call 43; refine (addSec_any _ _ (wl + d.tmod 1000000000) ex _ _ (by go_simp) (by go_simp) (by go_simp) (by omega) (by omega) he1 he2 (by omega) (by omega)).mono ?_; rintro e w' ⟨rfl, rfl⟩))
    refine bodyPost_ret (v := .agg #[.int .u64 (wl + d.tmod 1000000000), .int .i64 (ex + (d.tdiv 1000000000)), .pointer none]) (by simp [results, Try.results34, go_sem]) rfl ⟨by rw [e1.out, e2.out], ((Below.refl _ _).alloc (Nat.le_refl _) _).alloc (by simp) _⟩

theorem add_any (t d : Int) (w : World) (ht1 : -4611686018427387904 ≤ t) (ht2 : t ≤ 4611686018427387904)
    (hd1 : -9223372036854775808 ≤ d) (hd2 : d ≤ 9223372036854775807) :
    Calls Try.prog 34 #[tm t, .int .i64 d] w fun e w' => e = .returned (tm (t + d)) ∧ Below w.heap.size w w' := by
  refine (add_core (t % 1000000000) (t / 1000000000) d w (by omega) (by omega) (by omega) (by omega) hd1 hd2).mono ?_
  rintro e w' ⟨rfl, hb⟩
  refine ⟨?_, hb⟩
  have e1 : (t % 1000000000 + d) % 1000000000 = (t + d) % 1000000000 := by omega
  have e2 : t / 1000000000 + (t % 1000000000 + d) / 1000000000 = (t + d) / 1000000000 := by omega
  rw [e1, e2]; rfl

theorem tm_zero : tm 0 = .agg #[.int .u64 0, .int .i64 0, .pointer none] := rfl

theorem equal_core (wl ex wl' ex' : Int) (w : World) (hl : 0 ≤ wl) (hu : wl < 1000000000) (hl' : 0 ≤ wl') (hu' : wl' < 1000000000) (h1 : wl = wl') (h2 : ex = ex') :
    Calls Try.prog 41 #[.agg #[.int .u64 wl, .int .i64 ex, .pointer none], .agg #[.int .u64 wl', .int .i64 ex', .pointer none]] w fun e w' =>
      e = .returned (.bool true) ∧ Below w.heap.size w w' := by
  subst h1 h2
  have hm := mono_no2 wl wl hl (by omega) hl (by omega)
  go_enter Try.func41, Try.ntmps41
  go_wp2_with (first
    | (go_at_call 40; refine (nsec_any _ _ wl _ (by go_simp) hl (by omega)).mono ?_; rintro e w' ⟨rfl, rfl⟩)
    | (go_at_call 39; refine (sec_any _ _ wl ex _ (by go_simp) (by go_simp) hl (by omega)).mono ?_; rintro e w' ⟨rfl, rfl⟩))
  go_ret
  exact ⟨rfl, ((Below.refl _ _).alloc (Nat.le_refl _) _).alloc (by simp) _⟩

set_option maxHeartbeats 1000000 in
theorem sub_any (t u : Int) (w : World) (ht1 : -2400000000000000000 ≤ t) (ht2 : t ≤ 2400000000000000000)
    (hu1 : -2400000000000000000 ≤ u) (hu2 : u ≤ 2400000000000000000) :
    Calls Try.prog 33 #[tm t, tm u] w fun e w' => e = .returned (.int .i64 (t - u)) ∧ Below w.heap.size w w' := by
  unfold tm
  have a1 : 0 ≤ t % 1000000000 := by omega
  have a2 : t % 1000000000 < 1000000000 := by omega
  have b1 : 0 ≤ u % 1000000000 := by omega
  have b2 : u % 1000000000 < 1000000000 := by omega
  have hm := mono_no2 (t % 1000000000) (u % 1000000000) a1 (by omega) b1 (by omega)
  go_enter Try.func33, Try.ntmps33
  go_wp2_with (first
    | (go_at_call_of 39 (Value.pointer (some { block := w.heap.size, off := 0 })); refine (sec_any _ _ (t % 1000000000) (t / 1000000000) _ (by go_simp) (by go_simp) a1 (by omega)).mono ?_; rintro e w' ⟨rfl, rfl⟩)
    | (go_at_call_of 39 (Value.pointer (some { block := w.heap.size + 1, off := 0 })); refine (sec_any _ _ (u % 1000000000) (u / 1000000000) _ (by go_simp) (by go_simp) b1 (by omega)).mono ?_; rintro e w' ⟨rfl, rfl⟩)
    | (go_at_call_of 40 (Value.pointer (some { block := w.heap.size, off := 0 })); refine (nsec_any _ _ (t % 1000000000) _ (by go_simp) a1 (by omega)).mono ?_; rintro e w' ⟨rfl, rfl⟩)
    | (go_at_call_of 40 (Value.pointer (some { block := w.heap.size + 1, off := 0 })); refine (nsec_any _ _ (u % 1000000000) _ (by go_simp) b1 (by omega)).mono ?_; rintro e w' ⟨rfl, rfl⟩))
  go_region_with (first
    | (go_at_call 34; go_must (refine (add_core (u % 1000000000) (u / 1000000000) _ _ b1 b2 (by omega) (by omega) (by omega) (by omega)).mono ?_; rintro e w1 ⟨rfl, hb1⟩; obtain ⟨hc1, hf1⟩ := bcell hb1))
    | (go_at_call 41; go_must (refine (equal_core _ _ _ _ _ (by omega) (by omega) a1 a2 (by omega) (by omega)).mono ?_; rintro e w2 ⟨rfl, hb2⟩)))
  all_goals
    go_wp2
    go_ret
    exact ⟨ret_int (by omega), below_then (below_then (((Below.refl _ _).alloc (Nat.le_refl _) _).alloc (by simp) _).drew hb1) hb2⟩

theorem after_any (t u : Int) (w : World) (ht1 : -4611686018427387904 ≤ t) (ht2 : t ≤ 4611686018427387904)
    (hu1 : -4611686018427387904 ≤ u) (hu2 : u ≤ 4611686018427387904) :
    Calls Try.prog 36 #[tm t, tm u] w fun e w' => e = .returned (.bool (decide (u < t))) ∧ Below w.heap.size w w' := by
  unfold tm
  have a1 : 0 ≤ t % 1000000000 := by omega
  have a2 : t % 1000000000 < 1000000000 := by omega
  have b1 : 0 ≤ u % 1000000000 := by omega
  have b2 : u % 1000000000 < 1000000000 := by omega
  have hm := mono_no2 (t % 1000000000) (u % 1000000000) a1 (by omega) b1 (by omega)
  go_enter Try.func36, Try.ntmps36
  go_wp2_with (first
    | (go_at_call_of 39 (Value.pointer (some { block := w.heap.size, off := 0 })); refine (sec_any _ _ (t % 1000000000) (t / 1000000000) _ (by go_simp) (by go_simp) a1 (by omega)).mono ?_; rintro e w' ⟨rfl, rfl⟩)
    | (go_at_call_of 39 (Value.pointer (some { block := w.heap.size + 1, off := 0 })); refine (sec_any _ _ (u % 1000000000) (u / 1000000000) _ (by go_simp) (by go_simp) b1 (by omega)).mono ?_; rintro e w' ⟨rfl, rfl⟩)
    | (go_at_call_of 40 (Value.pointer (some { block := w.heap.size, off := 0 })); refine (nsec_any _ _ (t % 1000000000) _ (by go_simp) a1 (by omega)).mono ?_; rintro e w' ⟨rfl, rfl⟩)
    | (go_at_call_of 40 (Value.pointer (some { block := w.heap.size + 1, off := 0 })); refine (nsec_any _ _ (u % 1000000000) _ (by go_simp) b1 (by omega)).mono ?_; rintro e w' ⟨rfl, rfl⟩))
  all_goals
    go_ret
    refine ⟨ret_bool ?_, ((Below.refl _ _).alloc (Nat.le_refl _) _).alloc (by simp) _⟩
    simp
    omega

theorem atOffset_any (t : Int) (w : World) (ht1 : -9223372036854775808 ≤ t) (ht2 : t ≤ 9223372036854775807) :
    Calls Try.prog 31 #[.int .i64 t] w fun e w' => e = .returned (tm t) ∧ Below w.heap.size w w' := by
  go_enter Try.func31, Try.ntmps31
  go_wp2_with (first
    | (go_at_call 34; go_must (refine (add_core 0 0 t _ (by omega) (by omega) (by omega) (by omega) ht1 ht2).mono ?_; rintro e w1 ⟨rfl, hb1⟩; obtain ⟨hc1, hf1⟩ := bcell hb1)))
  refine bodyPost_ret (v := tm t) (by simp [results, Try.results31, go_sem, tm, hc1, hf1]) rfl ⟨rfl, ?_⟩
  exact (((below_then ((Below.refl _ _).alloc (Nat.le_refl _) _) hb1).setCell (Nat.le_refl _) _).setCell (Nat.le_refl _) _).setCell (Nat.le_refl _) _

theorem offsetOf_any (t : Int) (w : World) (ht1 : -2400000000000000000 ≤ t) (ht2 : t ≤ 2400000000000000000) :
    Calls Try.prog 26 #[tm t] w fun e w' => e = .returned (.int .i64 t) ∧ Below w.heap.size w w' := by
  unfold tm
  go_enter Try.func26, Try.ntmps26
  go_wp2_with (first
    | (go_at_call 33; go_must (refine (sub_any t 0 _ (by omega) (by omega) (by omega) (by omega)).mono ?_; rintro e w1 ⟨rfl, hb1⟩)))
  go_ret
  exact ⟨ret_int (by omega), below_then ((Below.refl _ _).alloc (Nat.le_refl _) _) hb1⟩
end Go.Proofs.Qxb6630552a
