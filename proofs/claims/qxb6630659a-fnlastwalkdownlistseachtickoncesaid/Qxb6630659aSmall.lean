import Derived.Test.Qxb6630659aBuild
/- THE WALKS of zzBytes (5, 9), zzInRange (6), zzHas (10). -/
namespace Go.Proofs.Qxb6630659a
set_option linter.unusedVariables false
set_option linter.unusedSimpArgs false
open Go.RowKit

/-- A slice of integers that came in. -/
def Row (w : World) (a : Option Addr) (len cap : Nat) (zs : List Int) : Prop :=
  (a = none ∧ len = 0 ∧ cap = 0 ∧ zs = []) ∨
  ∃ x, a = some x ∧ len ≤ cap ∧ cap ≤ maxLen ∧ zs.length = cap ∧ (∀ i, i < zs.length → w.cell? (x.add i) = some (.int .i64 (zs.getD i 0))) ∧ ∀ n ∈ zs, (Lit.int .i64 n).wf = true
/-- .. as the walks want it. -/
structure Tk (w : World) (a : Option Addr) (n cap : Nat) (zs : List Int) (A : Nat → Addr) : Prop where
  ix : ∀ k, k < n → ∀ W, (Instr.indexAt 22 (.slice a n cap) (.int .i64 (k : Int))).run Try.prog W = .ok (.pointer (some (A k))) W
  cell : ∀ k, k < n → w.cell? (A k) = some (.int .i64 (zs.getD k 0))
  len : n ≤ zs.length
  max : n ≤ maxLen
theorem Row.tk {w : World} {a : Option Addr} {n cap : Nat} {zs : List Int} (h : Row w a n cap zs) : ∃ A, Tk w a n cap zs A := by
  rcases h with ⟨rfl, rfl, rfl, rfl⟩ | ⟨x, rfl, h1, h2, h3, h4, h5⟩
  · exact ⟨fun _ => ⟨0, 0, none⟩, fun k hk => by omega, fun k hk => by omega, by simp, by simp⟩
  · exact ⟨fun k => x.add k, fun k hk => ix22 x n cap k hk, fun k hk => h4 k (by omega), by omega, by omega⟩
theorem Tk.below {w w' : World} {a : Option Addr} {n cap : Nat} {zs : List Int} {A : Nat → Addr} (h : Tk w a n cap zs A) (hb : Below w.heap.size w w') : Tk w' a n cap zs A :=
  ⟨h.ix, fun k hk => cell_below (h.cell k hk) hb, h.len, h.max⟩
/-- All of the first k ticks are ticks. -/
def InR (zs : List Int) (k : Nat) : Prop := ∀ i, i < k → -887272 ≤ zs.getD i 0 ∧ zs.getD i 0 ≤ 887272
theorem build_row {w : World} {a : Option Addr} {n cap : Nat} {zs : List Int} (h : Row w a n cap zs) (hn : n ≤ 131072) (hr : InR zs n) : Calls Try.prog 7 #[.slice a n cap] w fun e w' => BPost zs n w e w' := by
  rcases h with ⟨rfl, rfl, rfl, rfl⟩ | ⟨x, rfl, h1, h2, h3, h4, h5⟩
  · exact build_nil none [] 0 w
  · by_cases h0 : n = 0
    · subst h0
      exact build_nil _ zs cap w
    · exact build_any x n cap zs w (by omega) hn h3 h1 h4 hr
theorem mem_iff (zs : List Int) (n x : Nat) (hn : n ≤ zs.length) : Mem zs n x = true ↔ ∃ i, i < n ∧ zs.getD i 0 = (x : Int) - 887272 := by
  unfold Mem
  rw [List.contains_iff_mem, List.mem_iff_getElem]
  constructor
  · rintro ⟨i, hi, e⟩
    have hi' : i < n := by simp at hi; omega
    have hz : i < zs.length := by omega
    refine ⟨i, hi', ?_⟩
    rw [List.getElem_take] at e
    rw [List.getD_eq_getElem?_getD, List.getElem?_eq_getElem hz]
    exact e
  · rintro ⟨i, hi, e⟩
    have hz : i < zs.length := by omega
    refine ⟨i, by simp; omega, ?_⟩
    rw [List.getElem_take]
    rw [List.getD_eq_getElem?_getD, List.getElem?_eq_getElem hz] at e
    exact e

theorem inRange_any (z : Int) (w : World) : Calls Try.prog 6 #[.int .i64 z] w fun e w' => e = .returned (.bool (decide (-887272 ≤ z ∧ z ≤ 887272))) ∧ w' = w := by
  by_cases h1 : -887272 ≤ z
  · by_cases h2 : z ≤ 887272
    · rw [decide_eq_true (⟨h1, h2⟩ : -887272 ≤ z ∧ z ≤ 887272)]
      go_enter Try.func6, Try.ntmps6
      go_wp2
      go_ret
      first | done | exact ⟨rfl, rfl⟩
    · rw [decide_eq_false (fun h => h2 h.2 : ¬ (-887272 ≤ z ∧ z ≤ 887272))]
      go_enter Try.func6, Try.ntmps6
      go_wp2
      go_ret
      first | done | exact ⟨rfl, rfl⟩
  · rw [decide_eq_false (fun h => h1 h.1 : ¬ (-887272 ≤ z ∧ z ≤ 887272))]
    go_enter Try.func6, Try.ntmps6
    go_wp2
    go_ret
    first | done | exact ⟨rfl, rfl⟩
theorem bytes5_any (a : Option Addr) (n cap : Nat) (x y : Value) (w : World) (hn : n ≤ maxLen) : Calls Try.prog 5 #[.slice a n cap, x, y] w fun e w' => e = .returned (.bool (decide (n ≤ 1048576))) ∧ w' = w := by
  have hmax : (n : Int) ≤ 9223372036854775807 := by have : maxLen = 9223372036854775807 := by decide +kernel
                                                    omega
  by_cases h1 : n ≤ 1048576
  · rw [decide_eq_true h1]
    have h2 : ¬ ((1048576 : Int) < n) := by omega
    go_enter Try.func5, Try.ntmps5
    go_wp2
    go_ret
    first | done | exact ⟨rfl, rfl⟩
  · rw [decide_eq_false h1]
    have h2 : ((1048576 : Int) < n) := by omega
    go_enter Try.func5, Try.ntmps5
    go_wp2
    go_ret
    first | done | exact ⟨rfl, rfl⟩
theorem bytes9_any (a : Option Addr) (n cap : Nat) (x y : Value) (w : World) (hn : n ≤ maxLen) : Calls Try.prog 9 #[.slice a n cap, x, y] w fun e w' => e = .returned (.bool (decide (n ≤ 1048576))) ∧ w' = w := by
  have hmax : (n : Int) ≤ 9223372036854775807 := by have : maxLen = 9223372036854775807 := by decide +kernel
                                                    omega
  by_cases h1 : n ≤ 1048576
  · rw [decide_eq_true h1]
    have h2 : ¬ ((1048576 : Int) < n) := by omega
    go_enter Try.func9, Try.ntmps9
    go_wp2
    go_ret
    first | done | exact ⟨rfl, rfl⟩
  · rw [decide_eq_false h1]
    have h2 : ((1048576 : Int) < n) := by omega
    go_enter Try.func9, Try.ntmps9
    go_wp2
    go_ret
    first | done | exact ⟨rfl, rfl⟩
def HasP (zs : List Int) (n : Nat) (t : Int) (e : Ending) : Prop := ∃ b : Bool, e = .returned (.bool b) ∧ ((∃ i, i < n ∧ zs.getD i 0 = t) → b = true)
theorem has_any (a : Option Addr) (n cap : Nat) (zs : List Int) (A : Nat → Addr) (t : Int) (w : World) (h : Tk w a n cap zs A) (hn : n ≤ 131072) : Calls Try.prog 10 #[.slice a n cap, .int .i64 t] w fun e w' => HasP zs n t e ∧ w' = w := by
  obtain ⟨hix, hcell, hlen, hmax⟩ := h
  have HX := mkHid hix
  have HC := mkHid hcell
  clear hix hcell hmax
  go_enter Try.func10, Try.ntmps10
  go_wp2
  go_loop [5] (fun v => ∃ k : Nat, k ≤ n ∧ v = .int .i64 k ∧ Hid (∀ i, i < k → zs.getD i 0 ≠ t)) (fun v => n - (intOf v).toNat)
  case atStart => exact ⟨0, Nat.zero_le _, rfl, fun i hi => by omega⟩
  case round =>
    obtain ⟨k, hk, rfl, hno⟩ := hrel
    by_cases hkn : k < n
    · have hx := HX.out k hkn
      have hc := HC.out k hkn
      obtain ⟨z, hz⟩ : ∃ z, z = zs.getD k 0 := ⟨_, rfl⟩
      rw [← hz] at hc
      have HZ := mkHid hz
      clear hz
      by_cases e : z = t
      · subst e
        go_wp2
        go_ret
        exact ⟨⟨true, rfl, fun _ => rfl⟩, rfl⟩
      · have e1 : (z = t) = False := eq_false e
        have e2 : (z == t) = false := by rw [beq_eq_false_iff_ne]; exact e
        have E := mkHid e
        clear e
        go_wp2
        go_round
        case rel => exact ⟨k + 1, hkn, by go_num, fun i hi => by
          by_cases e : i < k
          · exact hno.out i e
          · have : i = k := by omega
            rw [this, ← HZ.out]; exact E.out⟩
        case measure => exact up_lt n k hkn
    · have hke : k = n := by omega
      subst hke
      go_wp2
      go_ret
      exact ⟨⟨false, rfl, fun ⟨i, hi, e⟩ => absurd e (hno.out i hi)⟩, rfl⟩
end Go.Proofs.Qxb6630659a
