import Derived.Test.Qxb6630552aTime
import Derived.Test.Qxb6630552aPlain
namespace Go.Proofs.Qxb6630552a
set_option linter.unusedVariables false
set_option linter.unusedSimpArgs false
open Go.RowKit

/-- A slice of strings, in memory. -/
def SR (w : World) (a : Option Addr) (ss : List ByteArray) : Prop :=
  ss.length ≤ 9223372036854775807 ∧ ∃ b off, (ss ≠ [] → a = some ⟨b, off, none⟩ ∧ b < w.heap.size) ∧ ∀ k, k < ss.length → w.cell? ⟨b, off + k, none⟩ = some (.string (strAt ss k))

/-- A slice of ZNode. -/
def NR (w : World) (a : Option Addr) (ns : List ND) : Prop :=
  ns.length ≤ 9223372036854775807 ∧ ∃ b off, (ns ≠ [] → a = some ⟨b, off, none⟩ ∧ b < w.heap.size) ∧ ∀ k, k < ns.length →
    w.cell? ⟨b, off + k * 6, none⟩ = some (.string (ndAt ns k).addr) ∧ w.cell? ⟨b, off + k * 6 + 1, none⟩ = some (.int .i64 (ndAt ns k).seen) ∧
    w.cell? ⟨b, off + k * 6 + 2, none⟩ = some (.int .i64 (ndAt ns k).rep) ∧ w.cell? ⟨b, off + k * 6 + 3, none⟩ = some (.int .i64 (ndAt ns k).reping) ∧
    w.cell? ⟨b, off + k * 6 + 4, none⟩ = some (.bool (ndAt ns k).dis) ∧ w.cell? ⟨b, off + k * 6 + 5, none⟩ = some (.slice (ndAt ns k).oa (ndAt ns k).old.length (ndAt ns k).ocap) ∧
    SR w (ndAt ns k).oa (ndAt ns k).old

/-- A slice of ZHeard (or of master.Heard). -/
def HR (w : World) (a : Option Addr) (hs : List HD) : Prop :=
  hs.length ≤ 9223372036854775807 ∧ ∃ b off, (hs ≠ [] → a = some ⟨b, off, none⟩ ∧ b < w.heap.size) ∧ ∀ k, k < hs.length →
    w.cell? ⟨b, off + k * 2, none⟩ = some (.string (hdAt hs k).addr) ∧ w.cell? ⟨b, off + k * 2 + 1, none⟩ = some (.int .i64 (hdAt hs k).ago)

theorem ix22 (a : Option Addr) (n cap b off : Nat) (h : n ≠ 0 → a = some ⟨b, off, none⟩) :
    ∀ (k : Nat), k < n → ∀ W, (Instr.indexAt 22 (.slice a n cap) (.int .i64 k)).run Try.prog W = .ok (.pointer (some ⟨b, off + k, none⟩)) W := by
  intro k hk W
  have ha := h (by omega)
  subst ha
  have h2 : (0 : Int) ≤ k := by omega
  have h3 : (k : Int) < n := by omega
  go_simp
theorem ix23 (a : Option Addr) (n cap b off : Nat) (h : n ≠ 0 → a = some ⟨b, off, none⟩) :
    ∀ (k : Nat), k < n → ∀ W, (Instr.indexAt 23 (.slice a n cap) (.int .i64 k)).run Try.prog W = .ok (.pointer (some ⟨b, off + k * 6, none⟩)) W := by
  intro k hk W
  have ha := h (by omega)
  subst ha
  have h2 : (0 : Int) ≤ k := by omega
  have h3 : (k : Int) < n := by omega
  go_simp
theorem ix24 (a : Option Addr) (n cap b off : Nat) (h : n ≠ 0 → a = some ⟨b, off, none⟩) :
    ∀ (k : Nat), k < n → ∀ W, (Instr.indexAt 24 (.slice a n cap) (.int .i64 k)).run Try.prog W = .ok (.pointer (some ⟨b, off + k * 2, none⟩)) W := by
  intro k hk W
  have ha := h (by omega)
  subst ha
  have h2 : (0 : Int) ≤ k := by omega
  have h3 : (k : Int) < n := by omega
  go_simp
theorem ix79 (a : Option Addr) (n cap b off : Nat) (h : n ≠ 0 → a = some ⟨b, off, none⟩) :
    ∀ (k : Nat), k < n → ∀ W, (Instr.indexAt 79 (.slice a n cap) (.int .i64 k)).run Try.prog W = .ok (.pointer (some ⟨b, off + k * 2, none⟩)) W := by
  intro k hk W
  have ha := h (by omega)
  subst ha
  have h2 : (0 : Int) ≤ k := by omega
  have h3 : (k : Int) < n := by omega
  go_simp
theorem ix51 (a : Option Addr) (n cap b off : Nat) (h : n ≠ 0 → a = some ⟨b, off, none⟩) :
    ∀ (k : Nat), k < n → ∀ W, (Instr.indexAt 51 (.slice a n cap) (.int .i64 k)).run Try.prog W = .ok (.pointer (some ⟨b, off + k, none⟩)) W := by
  intro k hk W
  have ha := h (by omega)
  subst ha
  have h2 : (0 : Int) ≤ k := by omega
  have h3 : (k : Int) < n := by omega
  go_simp

theorem indexStr_any (a : Option Addr) (cap : Nat) (ss : List ByteArray) (x : ByteArray) (w : World) (h : SR w a ss) :
    Calls Try.prog 14 #[.slice a ss.length cap, .string x] w fun e w' => e = .returned (.int .i64 (indexStr ss x)) ∧ w' = w := by
  obtain ⟨hm, b, off, ha, hcell⟩ := h
  have hix := ix22 a ss.length cap b off (fun h => (ha (by intro e; simp [e] at h)).1)
  clear ha
  go_enter Try.func14, Try.ntmps14
  go_wp2
  go_loop [8] (fun i => ∃ k : Nat, k ≤ ss.length ∧ i = .int .i64 k ∧ Hid (∀ j, j < k → sEq (strAt ss j) x = false)) (fun i => ss.length - (intOf i).toNat)
  case atStart => exact ⟨0, Nat.zero_le _, rfl, fun j hj => by omega⟩
  case round =>
    obtain ⟨k, hk, rfl, hno⟩ := hrel
    by_cases hlt : k < ss.length
    · have hc := hcell k hlt
      clear hcell
      go_wp2
      · go_ret
        exact ⟨ret_int (firstAt_hit _ _ k hlt ‹_› hno.out).symm, rfl⟩
      · go_round
        case rel =>
          refine ⟨k + 1, by omega, by go_num, fun j hj => ?_⟩
          by_cases e : j = k
          · rw [e]; assumption
          · exact hno.out j (by omega)
        case measure => simp [intOf]; omega
    · go_wp2
      go_ret
      exact ⟨ret_int (firstAt_miss _ _ (fun j hj => hno.out j (by omega))).symm, rfl⟩

theorem sEq_comm (a b : ByteArray) : sEq a b = sEq b a := by
  rw [Bool.eq_iff_iff, sEq_iff, sEq_iff]; exact ⟨Eq.symm, Eq.symm⟩

theorem slicesIndex_any (a : Option Addr) (cap : Nat) (ss : List ByteArray) (x : ByteArray) (w : World) (h : SR w a ss) :
    Calls Try.prog 45 #[.slice a ss.length cap, .string x] w fun e w' => e = .returned (.int .i64 (indexStr ss x)) ∧ w' = w := by
  obtain ⟨hm, b, off, ha, hcell⟩ := h
  have hix := ix22 a ss.length cap b off (fun h => (ha (by intro e; simp [e] at h)).1)
  clear ha
  go_enter Try.func45, Try.ntmps45
  go_wp2
  go_loop [8] (fun i => ∃ k : Nat, k ≤ ss.length ∧ i = .int .i64 k ∧ Hid (∀ j, j < k → sEq (strAt ss j) x = false)) (fun i => ss.length - (intOf i).toNat)
  case atStart => exact ⟨0, Nat.zero_le _, rfl, fun j hj => by omega⟩
  case round =>
    obtain ⟨k, hk, rfl, hno⟩ := hrel
    by_cases hlt : k < ss.length
    · have hc := hcell k hlt
      clear hcell
      go_wp2
      · have hh : sEq x (strAt ss k) = true := by assumption
        rw [sEq_comm] at hh
        go_ret
        exact ⟨ret_int (firstAt_hit _ _ k hlt hh hno.out).symm, rfl⟩
      · have hh : sEq x (strAt ss k) = false := by assumption
        rw [sEq_comm] at hh
        go_round
        case rel =>
          refine ⟨k + 1, by omega, by go_num, fun j hj => ?_⟩
          by_cases e : j = k
          · rw [e]; exact hh
          · exact hno.out j (by omega)
        case measure => simp [intOf]; omega
    · go_wp2
      go_ret
      exact ⟨ret_int (firstAt_miss _ _ (fun j hj => hno.out j (by omega))).symm, rfl⟩

theorem lastNode_any (a : Option Addr) (cap : Nat) (ns : List ND) (x : ByteArray) (w : World) (h : NR w a ns) :
    Calls Try.prog 13 #[.slice a ns.length cap, .string x] w fun e w' => e = .returned (.int .i64 (lastNode ns x)) ∧ w' = w := by
  obtain ⟨hm, b, off, ha, hcell⟩ := h
  have hix := ix23 a ns.length cap b off (fun h => (ha (by intro e; simp [e] at h)).1)
  clear ha
  go_enter Try.func13, Try.ntmps13
  go_wp2
  go_loop [5] (fun i => ∃ k : Nat, k ≤ ns.length ∧ i = .int .i64 ((k : Int) - 1) ∧ Hid (lastNode ns x = lastAt (fun j => sEq (ndAt ns j).addr x) k)) (fun i => (intOf i + 1).toNat)
  case atStart => exact ⟨ns.length, Nat.le_refl _, rfl, rfl⟩
  case round =>
    obtain ⟨k, hk, rfl, hno⟩ := hrel
    rcases k with _ | j
    · go_wp2
      go_ret
      exact ⟨ret_int hno.out.symm, rfl⟩
    · obtain ⟨hc, -⟩ := hcell j (by omega)
      clear hcell
      have hj : j < ns.length := by omega
      have ej : (((j + 1 : Nat) : Int) - 1) = (j : Int) := by omega
      rw [ej]
      clear ej
      go_wp2
      · go_ret
        exact ⟨ret_int (by rw [hno.out]; exact (lastAt_succ_hit _ _ ‹_›).symm), rfl⟩
      · go_round
        case rel =>
          exact ⟨j, by omega, by go_num, by unfold Hid; rw [hno.out]; exact lastAt_succ_miss _ _ ‹_›⟩
        case measure => simp [intOf]

theorem lastHeard_any (a : Option Addr) (cap : Nat) (ns : List HD) (x : ByteArray) (w : World) (h : HR w a ns) :
    Calls Try.prog 28 #[.slice a ns.length cap, .string x] w fun e w' => e = .returned (.int .i64 (lastHeard ns x)) ∧ w' = w := by
  obtain ⟨hm, b, off, ha, hcell⟩ := h
  have hix := ix24 a ns.length cap b off (fun h => (ha (by intro e; simp [e] at h)).1)
  clear ha
  go_enter Try.func28, Try.ntmps28
  go_wp2
  go_loop [5] (fun i => ∃ k : Nat, k ≤ ns.length ∧ i = .int .i64 ((k : Int) - 1) ∧ Hid (lastHeard ns x = lastAt (fun j => sEq (hdAt ns j).addr x) k)) (fun i => (intOf i + 1).toNat)
  case atStart => exact ⟨ns.length, Nat.le_refl _, rfl, rfl⟩
  case round =>
    obtain ⟨k, hk, rfl, hno⟩ := hrel
    rcases k with _ | j
    · go_wp2
      go_ret
      exact ⟨ret_int hno.out.symm, rfl⟩
    · obtain ⟨hc, -⟩ := hcell j (by omega)
      clear hcell
      have hj : j < ns.length := by omega
      have ej : (((j + 1 : Nat) : Int) - 1) = (j : Int) := by omega
      rw [ej]
      clear ej
      go_wp2
      · go_ret
        exact ⟨ret_int (by rw [hno.out]; exact (lastAt_succ_hit _ _ ‹_›).symm), rfl⟩
      · go_round
        case rel =>
          exact ⟨j, by omega, by go_num, by unfold Hid; rw [hno.out]; exact lastAt_succ_miss _ _ ‹_›⟩
        case measure => simp [intOf]

theorem distinct_any (a : Option Addr) (cap : Nat) (ns : List ND) (w : World) (h : NR w a ns) :
    Calls Try.prog 16 #[.slice a ns.length cap] w fun e w' => e = .returned (.int .i64 (distinctNodes ns)) ∧ w' = w := by
  have hN := fun x => lastNode_any a cap ns x w h
  obtain ⟨hm, b, off, ha, hcell⟩ := h
  have hix := ix23 a ns.length cap b off (fun h => (ha (by intro e; simp [e] at h)).1)
  clear ha
  go_enter Try.func16, Try.ntmps16
  go_wp2
  go_loop [3, 7] (fun c i => ∃ k : Nat, k ≤ ns.length ∧ i = .int .i64 k ∧ c = .int .i64 (countTo (fun i => lastNode ns (ndAt ns i).addr == (i : Int)) k : Nat)) (fun _ i => ns.length - (intOf i).toNat)
  case atStart => exact ⟨0, Nat.zero_le _, rfl, rfl⟩
  case round =>
    obtain ⟨k, hk, rfl, rfl⟩ := hrel
    have hle := countTo_le (fun i => lastNode ns (ndAt ns i).addr == (i : Int)) k
    by_cases hlt : k < ns.length
    · obtain ⟨hc, -⟩ := hcell k hlt
      clear hcell
      have hsu : Hid (countTo (fun i => lastNode ns (ndAt ns i).addr == (i : Int)) (k + 1) = if lastNode ns (ndAt ns k).addr == (k : Int) then countTo (fun i => lastNode ns (ndAt ns i).addr == (i : Int)) k + 1 else countTo (fun i => lastNode ns (ndAt ns i).addr == (i : Int)) k) := rfl
      generalize hg : countTo (fun i => lastNode ns (ndAt ns i).addr == (i : Int)) k = c at *
      generalize hg2 : countTo (fun i => lastNode ns (ndAt ns i).addr == (i : Int)) (k + 1) = c' at *
      clear hg
      have HN := show Hid _ from hN
      have HG := show Hid _ from hg2
      clear hN hg2
      go_wp2_with (go_at_call 13; refine (HN.out _).mono ?_; rintro e w' ⟨rfl, rfl⟩)
      all_goals
        go_round
        case rel => exact ⟨k + 1, by omega, by go_num, by rw [HG.out, hsu.out]; first | (rw [if_pos ‹_›]; go_num) | rw [if_neg (by simp [*])]⟩
        case measure => simp [intOf]; omega
    · have : k = ns.length := by omega
      subst this
      go_wp2
      go_ret
      exact ⟨rfl, rfl⟩

theorem SR.below {w w' : World} {a : Option Addr} {ss : List ByteArray} (h : SR w a ss) (hb : Below w.heap.size w w') : SR w' a ss := by
  obtain ⟨h1, b, off, h2, h3⟩ := h
  refine ⟨h1, b, off, fun e => ⟨(h2 e).1, Nat.lt_of_lt_of_le (h2 e).2 hb.size⟩, fun k hk => ?_⟩
  rw [hb.cell (p := ⟨b, off + k, none⟩) (h2 (by intro e; simp [e] at hk)).2]
  exact h3 k hk
theorem NR.below {w w' : World} {a : Option Addr} {ss : List ND} (h : NR w a ss) (hb : Below w.heap.size w w') : NR w' a ss := by
  obtain ⟨h1, b, off, h2, h3⟩ := h
  refine ⟨h1, b, off, fun e => ⟨(h2 e).1, Nat.lt_of_lt_of_le (h2 e).2 hb.size⟩, fun k hk => ?_⟩
  have hlt := (h2 (by intro e; simp [e] at hk)).2
  obtain ⟨c0, c1, c2, c3, c4, c5, c6⟩ := h3 k hk
  refine ⟨?_, ?_, ?_, ?_, ?_, ?_, c6.below hb⟩
  · rw [hb.cell (p := ⟨b, off + k * 6, none⟩) hlt]; exact c0
  · rw [hb.cell (p := ⟨b, off + k * 6 + 1, none⟩) hlt]; exact c1
  · rw [hb.cell (p := ⟨b, off + k * 6 + 2, none⟩) hlt]; exact c2
  · rw [hb.cell (p := ⟨b, off + k * 6 + 3, none⟩) hlt]; exact c3
  · rw [hb.cell (p := ⟨b, off + k * 6 + 4, none⟩) hlt]; exact c4
  · rw [hb.cell (p := ⟨b, off + k * 6 + 5, none⟩) hlt]; exact c5
theorem HR.below {w w' : World} {a : Option Addr} {ss : List HD} (h : HR w a ss) (hb : Below w.heap.size w w') : HR w' a ss := by
  obtain ⟨h1, b, off, h2, h3⟩ := h
  refine ⟨h1, b, off, fun e => ⟨(h2 e).1, Nat.lt_of_lt_of_le (h2 e).2 hb.size⟩, fun k hk => ?_⟩
  have hlt := (h2 (by intro e; simp [e] at hk)).2
  obtain ⟨c0, c1⟩ := h3 k hk
  refine ⟨?_, ?_⟩
  · rw [hb.cell (p := ⟨b, off + k * 2, none⟩) hlt]; exact c0
  · rw [hb.cell (p := ⟨b, off + k * 2 + 1, none⟩) hlt]; exact c1
theorem below_alloc (w : World) (o : Obj) : Below w.heap.size w (w.alloc o) := (Below.refl _ _).alloc (Nat.le_refl _) _

/-- (chain.Config).Index. -/
theorem configIndex_any (nr : Int) (a : Option Addr) (cap : Nat) (ss : List ByteArray) (jn : ByteArray) (j : Int) (x : ByteArray) (w : World) (h : SR w a ss) :
    Calls Try.prog 35 #[.agg #[.int .u64 nr, .slice a ss.length cap, .string jn, .int .u64 j], .string x] w fun e w' => e = .returned (.int .i64 (indexStr ss x)) ∧ Below w.heap.size w w' := by
  go_enter Try.func35, Try.ntmps35
  go_wp2_with (go_at_call 45; refine (slicesIndex_any a cap ss x _ (h.below (below_alloc _ _))).mono ?_; rintro e w' ⟨rfl, rfl⟩)
  go_ret
  exact ⟨rfl, below_alloc _ _⟩

theorem vouched_any (now ago : Int) (w : World) (h1 : -1152921504606846976 ≤ now) (h2 : now ≤ 1152921504606846976) (h3 : ago ≤ 1152921504606846976) :
    Calls Try.prog 18 #[.int .i64 now, .int .i64 ago] w fun e w' => e = .returned (.int .i64 (vouched now ago)) ∧ w' = w := by
  by_cases h : ago < 0
  all_goals
    go_enter Try.func18, Try.ntmps18
    go_wp2
    go_ret
    exact ⟨ret_int (by unfold vouched; omega), rfl⟩

def inTime (x : Int) : Bool := decide (-1152921504606846976 ≤ x) && decide (x ≤ 1152921504606846976)

theorem inTime_any (x : Int) (w : World) : Calls Try.prog 21 #[.int .i64 x] w fun e w' => e = .returned (.bool (inTime x)) ∧ w' = w := by
  by_cases h1 : -1152921504606846976 ≤ x <;> by_cases h2 : x ≤ 1152921504606846976
  all_goals
    go_enter Try.func21, Try.ntmps21
    go_wp2
    go_ret
    exact ⟨ret_bool (by simp [inTime, h1, h2]), rfl⟩

/-- The call answers a bool of which Q holds. -/
def AnsB (e : Ending) (Q : Bool → Prop) : Prop := ∃ r, e = .returned (.bool r) ∧ Q r
theorem ansB_mk {r : Bool} {Q : Bool → Prop} (h : Q r) : AnsB (.returned (.bool r)) Q := ⟨r, rfl, h⟩

theorem countsFit_any (a0 a1 a2 : Option Addr) (c0 c1 c2 : Nat) (ms : List ByteArray) (ns : List ND) (hs : List HD) (w : World) (h0 : SR w a0 ms) (h1 : NR w a1 ns) (h2 : HR w a2 hs) :
    Calls Try.prog 6 #[.slice a0 ms.length c0, .slice a1 ns.length c1, .slice a2 hs.length c2, .slice none 0 0] w fun e w' =>
      AnsB e (fun r => r = true → ms.length ≤ 4096 ∧ ns.length ≤ 4096 ∧ hs.length ≤ 4096 ∧ ∀ j, j < ns.length → (ndAt ns j).old.length ≤ 4096) ∧ w' = w := by
  have m0 := h0.1
  have m2 := h2.1
  obtain ⟨hm, b, off, ha, hcell⟩ := h1
  have hix := ix23 a1 ns.length c1 b off (fun h => (ha (by intro e; simp [e] at h)).1)
  clear ha h0 h2
  by_cases q0 : 4096 < ms.length
  · go_enter Try.func6, Try.ntmps6
    go_wp2
    go_ret
    exact ⟨ansB_mk (fun h => by cases h), rfl⟩
  by_cases q1 : 4096 < ns.length
  · go_enter Try.func6, Try.ntmps6
    go_wp2
    go_ret
    exact ⟨ansB_mk (fun h => by cases h), rfl⟩
  by_cases q2 : 4096 < hs.length
  · go_enter Try.func6, Try.ntmps6
    go_wp2
    go_ret
    exact ⟨ansB_mk (fun h => by cases h), rfl⟩
  go_enter Try.func6, Try.ntmps6
  go_wp2
  go_loop [30] (fun i => ∃ k : Nat, k ≤ ns.length ∧ i = .int .i64 k ∧ Hid (∀ j, j < k → (ndAt ns j).old.length ≤ 4096)) (fun i => ns.length - (intOf i).toNat)
  case atStart => exact ⟨0, Nat.zero_le _, rfl, fun j hj => by omega⟩
  case round =>
    obtain ⟨k, hk, rfl, hno⟩ := hrel
    by_cases hlt : k < ns.length
    · obtain ⟨-, -, -, -, -, hc, hsr⟩ := hcell k hlt
      have hl := hsr.1
      clear hcell hsr
      go_wp2
      · go_ret
        exact ⟨ansB_mk (fun h => by cases h), rfl⟩
      · have hh : ¬ 4096 < (ndAt ns k).old.length := by omega
        go_round
        case rel =>
          refine ⟨k + 1, by omega, by go_num, fun j hj => ?_⟩
          by_cases e : j = k
          · rw [e]; omega
          · exact hno.out j (by omega)
        case measure => simp [intOf]; omega
    · go_wp2
      go_ret
      exact ⟨ansB_mk (fun _ => ⟨by omega, by omega, by omega, fun j hj => hno.out j (by omega)⟩), rfl⟩
end Go.Proofs.Qxb6630552a
