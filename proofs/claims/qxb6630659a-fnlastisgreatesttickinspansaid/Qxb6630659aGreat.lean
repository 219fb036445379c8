import Derived.Test.Qxb6630659aSmall
/- THE WALK of FnLastIsGreatestTickInSpan (3). -/
namespace Go.Proofs.Qxb6630659a
set_option linter.unusedVariables false
set_option linter.unusedSimpArgs false
open Go.RowKit

/-- The greatest of the first k ticks in [lo, hi]. -/
def Best (zs : List Int) (lo hi : Int) (k : Nat) (b : Bool) (m : Int) : Prop :=
  (b = false → ∀ i, i < k → ¬ (lo ≤ zs.getD i 0 ∧ zs.getD i 0 ≤ hi)) ∧
  (b = true → (∃ i, i < k ∧ zs.getD i 0 = m) ∧ lo ≤ m ∧ m ≤ hi ∧ ∀ i, i < k → lo ≤ zs.getD i 0 → zs.getD i 0 ≤ hi → zs.getD i 0 ≤ m)
theorem Best.skip {zs : List Int} {lo hi m z : Int} {k : Nat} {b : Bool} (h : Best zs lo hi k b m) (hz : z = zs.getD k 0) (hno : ¬ (lo ≤ z ∧ z ≤ hi) ∨ (b = true ∧ z ≤ m)) : Best zs lo hi (k + 1) b m := by
  subst hz
  refine ⟨fun hb i hi => ?_, fun hb => ?_⟩
  · by_cases e : i < k
    · exact h.1 hb i e
    · have : i = k := by omega
      subst this
      rcases hno with h1 | h1
      · exact h1
      · rw [hb] at h1; cases h1.1
  · obtain ⟨⟨j, hj, ej⟩, h2, h3, h4⟩ := h.2 hb
    refine ⟨⟨j, by omega, ej⟩, h2, h3, fun i hi h5 h6 => ?_⟩
    by_cases e : i < k
    · exact h4 i e h5 h6
    · have : i = k := by omega
      subst this
      rcases hno with h1 | h1
      · exact absurd ⟨h5, h6⟩ h1
      · exact h1.2
theorem Best.take {zs : List Int} {lo hi m z : Int} {k : Nat} {b : Bool} (h : Best zs lo hi k b m) (hz : z = zs.getD k 0) (h1 : lo ≤ z) (h2 : z ≤ hi) (h3 : b = true → m < z) : Best zs lo hi (k + 1) true z := by
  subst hz
  refine ⟨fun hb => (by cases hb), fun _ => ⟨⟨k, by omega, rfl⟩, h1, h2, fun i hi h5 h6 => ?_⟩⟩
  by_cases e : i < k
  · cases b with
    | false => exact absurd ⟨h5, h6⟩ (h.1 rfl i e)
    | true => have := (h.2 rfl).2.2.2 i e h5 h6; have := h3 rfl; omega
  · have : i = k := by omega
    subst this; omega
/-- Last and the plain search agree. -/
theorem best_last {zs : List Int} {n L H : Nat} {b ok : Bool} {m r : Int} (hn : n ≤ zs.length) (hr : InR zs n) (h : Best zs ((L : Int) - 887272) ((H : Int) - 887272) n b m) (hl : LS (Mem zs n) L H r ok) :
    (b = false → ok = false ∧ r = 0) ∧ (b = true → ok = true ∧ r = m) := by
  constructor
  · intro hb
    cases ok with
    | false => exact ⟨rfl, (hl.2 rfl).1⟩
    | true =>
      obtain ⟨i, _, h2, h3, h4, _⟩ := hl.1 rfl
      obtain ⟨j, hj, e⟩ := (mem_iff zs n i hn).1 h4
      exact absurd ⟨by omega, by omega⟩ (h.1 hb j hj)
  · intro hb
    obtain ⟨⟨j, hj, ej⟩, h2, h3, h4⟩ := h.2 hb
    have hjr := hr j hj
    have hm : Mem zs n (m + 887272).toNat = true := (mem_iff zs n _ hn).2 ⟨j, hj, by omega⟩
    cases ok with
    | false => have := (hl.2 rfl).2 (m + 887272).toNat (by omega) (by omega); rw [hm] at this; cases this
    | true =>
      obtain ⟨i, k1, k2, k3, k4, k5⟩ := hl.1 rfl
      obtain ⟨j', hj', e'⟩ := (mem_iff zs n i hn).1 k4
      have := h4 j' hj' (by omega) (by omega)
      refine ⟨rfl, ?_⟩
      by_cases e : i < (m + 887272).toNat
      · have := k5 _ e (by omega); rw [hm] at this; cases this
      · omega

def Done (w : World) (e : Ending) (w' : World) : Prop := e = .returned (.bool true) ∧ Below w.heap.size w w'

set_option maxRecDepth 20000 in
theorem great_any (a0 : Option Addr) (n cap : Nat) (zs : List Int) (a1 a2 : Int) (w : World) (hrow : Row w a0 n cap zs) :
    Calls Try.prog 3 #[.slice a0 n cap, .int .i64 a1, .int .i64 a2] w fun e w' => Done w e w' := by
  obtain ⟨A, hT⟩ := hrow.tk
  have HT := mkHid hT
  have HROW := mkHid hrow
  clear hrow
  have hmax := hT.max
  clear hT
  by_cases hn : n ≤ 131072
  · have hb : decide (n ≤ 1048576) = true := decide_eq_true (by omega)
    have hn1 : ¬ ((131072 : Int) < n) := by omega
    by_cases h1 : -887272 ≤ a1 ∧ a1 ≤ 887272
    · by_cases h2 : -887272 ≤ a2 ∧ a2 ≤ 887272
      · have d1 := decide_eq_true h1
        have d2 := decide_eq_true h2
        go_enter Try.func3, Try.ntmps3
        go_wp2_with (first | (go_at_call 5; refine (bytes5_any _ _ _ _ _ _ hmax).mono ?_; rintro e w' ⟨rfl, hw'⟩; have hw' := hw'.symm; subst hw') | (go_at_call 6; refine (inRange_any _ _).mono ?_; rintro e w' ⟨rfl, hw'⟩; have hw' := hw'.symm; subst hw'))
        clear d1 d2
        go_loopw [7] (fun v wr => ∃ k : Nat, k ≤ n ∧ v = .int .i64 k ∧ Hid (InR zs k) ∧ wr = w) (fun v _ => n - (intOf v).toNat)
        case atStart => exact ⟨0, Nat.zero_le _, rfl, fun i hi => by omega, rfl⟩
        case round =>
          obtain ⟨k, hk, rfl, hin, hwr⟩ := hrel
          have hwr := hwr.symm
          subst hwr
          by_cases hkn : k < n
          · have hx := HT.out.ix k hkn
            have hc := HT.out.cell k hkn
            obtain ⟨z, hz⟩ : ∃ z, z = zs.getD k 0 := ⟨_, rfl⟩
            rw [← hz] at hc
            have HZ := mkHid hz
            clear hz
            by_cases hzr : -887272 ≤ z ∧ z ≤ 887272
            · have dz := decide_eq_true hzr
              go_wp2_with (first | (go_at_call 6; refine (inRange_any _ _).mono ?_; rintro e w' ⟨rfl, hw'⟩; have hw' := hw'.symm; subst hw'))
              go_roundw
              case rel => exact ⟨k + 1, hkn, by go_num, fun i hi => by
                by_cases e : i < k
                · exact hin.out i e
                · have : i = k := by omega
                  rw [this, ← HZ.out]; exact hzr, by first | rfl | trivial⟩
              case measure => exact up_lt n k hkn
            · have dz := decide_eq_false hzr
              clear hzr
              go_wp2_with (first | (go_at_call 6; refine (inRange_any _ _).mono ?_; rintro e w' ⟨rfl, hw'⟩; have hw' := hw'.symm; subst hw'))
              go_ret
              exact ⟨rfl, Below.refl _ _⟩
          · have hke : n = k := by omega
            subst hke
            obtain ⟨L, hL⟩ : ∃ L : Nat, a1 = (L : Int) - 887272 := ⟨(a1 + 887272).toNat, by omega⟩
            obtain ⟨H, hH⟩ : ∃ H : Nat, a2 = (H : Int) - 887272 := ⟨(a2 + 887272).toNat, by omega⟩
            subst hL hH
            have hL : L ≤ 1774544 := by omega
            have hH : H ≤ 1774544 := by omega
            go_wp2_with (first | (go_at_call 7; refine (build_row HROW.out hn hin.out).mono ?_; rintro e w1 ⟨sb, Q, rfl, hTS, hQ, hbel⟩; have HTS := mkHid hTS; have HQ := mkHid hQ; have HB := mkHid hbel; clear hTS hQ hbel) | (go_at_call 8; refine (last_any _ _ HQ.out sb L H w1 HTS.out hL hH).mono ?_; rintro e w2 ⟨⟨r, ok, rfl, hLS⟩, hbel2⟩; have HLS := mkHid hLS; have HB2 := mkHid (HB.out.trans (hbel2.mono HB.out.size)); clear hLS hbel2))
            have HT2 := mkHid (HT.out.below HB2.out)
            have hlen := HT.out.len
            clear HT HTS HQ HB HROW
            go_loopw [13, 11, 12] (fun v b m wr => ∃ (k : Nat) (fd : Bool) (best : Int), k ≤ n ∧ v = .int .i64 k ∧ b = .bool fd ∧ m = .int .i64 best ∧ Hid (Best zs ((L : Int) - 887272) ((H : Int) - 887272) k fd best) ∧ wr = w2) (fun v _ _ _ => n - (intOf v).toNat)
            case atStart => exact ⟨0, false, 0, Nat.zero_le _, rfl, rfl, rfl, ⟨fun _ i hi => by omega, fun h => by cases h⟩, rfl⟩
            case round =>
              obtain ⟨k, fd, best, hk, rfl, rfl, rfl, hbest, hwr2⟩ := hrel
              have hwr2 := hwr2.symm
              subst hwr2
              by_cases hkn : k < n
              · have hx := HT2.out.ix k hkn
                have hc := HT2.out.cell k hkn
                obtain ⟨z, hz⟩ : ∃ z, z = zs.getD k 0 := ⟨_, rfl⟩
                rw [← hz] at hc
                have HZ := mkHid hz
                clear hz
                by_cases c1 : (L : Int) - 887272 ≤ z
                · by_cases c2 : z ≤ (H : Int) - 887272
                  · cases fd
                    · go_wp2
                      go_roundw
                      case rel => exact ⟨k + 1, true, z, hkn, by go_num, rfl, rfl, hbest.out.take HZ.out c1 c2 (fun h => by cases h), by first | rfl | trivial⟩
                      case measure => exact up_lt n k hkn
                    · by_cases c3 : best < z
                      · go_wp2
                        go_roundw
                        case rel => exact ⟨k + 1, true, z, hkn, by go_num, rfl, rfl, hbest.out.take HZ.out c1 c2 (fun _ => c3), by first | rfl | trivial⟩
                        case measure => exact up_lt n k hkn
                      · go_wp2
                        go_roundw
                        case rel => exact ⟨k + 1, true, best, hkn, by go_num, rfl, rfl, hbest.out.skip HZ.out (.inr ⟨rfl, by omega⟩), by first | rfl | trivial⟩
                        case measure => exact up_lt n k hkn
                  · go_wp2
                    go_roundw
                    case rel => exact ⟨k + 1, fd, best, hkn, by go_num, rfl, rfl, hbest.out.skip HZ.out (.inl (by omega)), by first | rfl | trivial⟩
                    case measure => exact up_lt n k hkn
                · go_wp2
                  go_roundw
                  case rel => exact ⟨k + 1, fd, best, hkn, by go_num, rfl, rfl, hbest.out.skip HZ.out (.inl (by omega)), by first | rfl | trivial⟩
                  case measure => exact up_lt n k hkn
              · have hke : n = k := by omega
                subst hke
                have hfin := best_last hlen hin.out hbest.out HLS.out
                cases fd
                · obtain ⟨rfl, rfl⟩ := hfin.1 rfl
                  clear hfin
                  go_wp2
                  go_ret
                  exact ⟨rfl, HB2.out⟩
                · obtain ⟨rfl, rfl⟩ := hfin.2 rfl
                  clear hfin
                  go_wp2
                  go_ret
                  exact ⟨rfl, HB2.out⟩
      · have d1 := decide_eq_true h1
        have d2 := decide_eq_false h2
        clear h1 h2
        go_enter Try.func3, Try.ntmps3
        go_wp2_with (first | (go_at_call 5; refine (bytes5_any _ _ _ _ _ _ hmax).mono ?_; rintro e w' ⟨rfl, hw'⟩; have hw' := hw'.symm; subst hw') | (go_at_call 6; refine (inRange_any _ _).mono ?_; rintro e w' ⟨rfl, hw'⟩; have hw' := hw'.symm; subst hw'))
        go_ret
        exact ⟨rfl, Below.refl _ _⟩
    · have d1 := decide_eq_false h1
      clear h1
      go_enter Try.func3, Try.ntmps3
      go_wp2_with (first | (go_at_call 5; refine (bytes5_any _ _ _ _ _ _ hmax).mono ?_; rintro e w' ⟨rfl, hw'⟩; have hw' := hw'.symm; subst hw') | (go_at_call 6; refine (inRange_any _ _).mono ?_; rintro e w' ⟨rfl, hw'⟩; have hw' := hw'.symm; subst hw'))
      go_ret
      exact ⟨rfl, Below.refl _ _⟩
  · have hn1 : (131072 : Int) < n := by omega
    cases hb : decide (n ≤ 1048576)
    · go_enter Try.func3, Try.ntmps3
      go_wp2_with (first | (go_at_call 5; refine (bytes5_any _ _ _ _ _ _ hmax).mono ?_; rintro e w' ⟨rfl, hw'⟩; have hw' := hw'.symm; subst hw') | (go_at_call 6; refine (inRange_any _ _).mono ?_; rintro e w' ⟨rfl, hw'⟩; have hw' := hw'.symm; subst hw'))
      go_ret
      exact ⟨rfl, Below.refl _ _⟩
    · go_enter Try.func3, Try.ntmps3
      go_wp2_with (first | (go_at_call 5; refine (bytes5_any _ _ _ _ _ _ hmax).mono ?_; rintro e w' ⟨rfl, hw'⟩; have hw' := hw'.symm; subst hw') | (go_at_call 6; refine (inRange_any _ _).mono ?_; rintro e w' ⟨rfl, hw'⟩; have hw' := hw'.symm; subst hw'))
      go_ret
      exact ⟨rfl, Below.refl _ _⟩
end Go.Proofs.Qxb6630659a
