import Derived.Test.Qxb6630623aRowsOf
import Derived.WalkSpells
import Derived.WalkLawsBesides
import Derived.BigQuiet
import Derived.Deep.RegionWith
/- THE WALKS of the guards (4, 5, 6) and of zzEq (11). -/
namespace Go.Proofs.Qxb6630623a
set_option linter.unusedVariables false
set_option linter.unusedSimpArgs false
open Go.RowKit

/-- Some integer, some bool. -/
def IsI (v : Value) : Prop := ∃ z : Int, v = .int .i64 z
def RetB (e : Ending) : Prop := ∃ b : Bool, e = .returned (.bool b)
theorem isI (z : Int) : IsI (.int .i64 z) := ⟨z, rfl⟩
def TB (rs : List RD) (e : Ending) : Prop := RetB e ∧ (e = .returned (.bool false) → rs.length ≤ 65536)
theorem retB (b : Bool) : RetB (.returned (.bool b)) := ⟨b, rfl⟩

theorem eq_any (B0 B1 : Nat) (v0 v1 : Value) (xs ys : List Int) (w : World) (h0 : IL w B0 v0 xs) (h1 : IL w B1 v1 ys) (he : xs = ys) :
    Calls Try.prog 11 #[v0, v1] w fun e w' => e = .returned (.bool true) ∧ Below w.heap.size w w' := by
  subst he
  obtain ⟨a0, c0, g0, rfl, ha0, hc0, hl0, hxl, hcap⟩ := h0.look
  obtain ⟨a1, c1, g1, rfl, ha1, hc1, hl1, -⟩ := h1.look
  have hix := ix30 a0 xs.length c0 g0 ha0
  have hiy := ix30 a1 xs.length c1 g1 ha1
  clear ha0 ha1 h0 h1
  go_enter Try.func11, Try.ntmps11
  go_wp2
  go_loopw [5] (fun i wr => ∃ k : Nat, k ≤ xs.length ∧ i = .int .i64 k ∧ Below w.heap.size w wr) (fun i wr => xs.length - (intOf i).toNat)
  case atStart => exact ⟨0, Nat.zero_le _, rfl, Below.refl _ _⟩
  case round =>
    obtain ⟨k, hk, rfl, hb⟩ := hrel
    by_cases hlt : k < xs.length
    · have hcx : wr.cell? ⟨g0, k, none⟩ = _ := (hb.cell (by exact (hl0 (by omega)).2)).trans (hc0 k hlt)
      have hcy : wr.cell? ⟨g1, k, none⟩ = _ := (hb.cell (by exact (hl1 (by omega)).2)).trans (hc1 k hlt)
      have hx1 := hix k hlt
      have hy1 := hiy k hlt
      clear hc0 hc1
      go_wp2_with (go_region)
      go_roundw
      case rel => exact ⟨k + 1, by omega, by go_num, hb.drew⟩
      case measure => simp [intOf]; omega
    · go_wp2
      go_ret
      exact ⟨rfl, hb⟩

theorem bytes_any (a : Option Addr) (cap : Nat) (rs : List RD) (q u : ByteArray) (w : World) (h : RR w a rs) :
    Calls Try.prog 4 #[.slice a rs.length cap, .string q, .string u] w fun e w' => RetB e ∧ w' = w := by
  obtain ⟨hm, b, off, ha, hcell⟩ := h
  have hix := ix22 a rs.length cap b off (fun h => (ha (by intro e; simp [e] at h)).1)
  clear ha
  go_enter Try.func4, Try.ntmps4
  go_wp2
  · go_ret; exact ⟨retB _, rfl⟩
  · go_loop [7, 8] (fun t i => ∃ (k : Nat), k ≤ rs.length ∧ IsI t ∧ i = .int .i64 k) (fun t i => rs.length - (intOf i).toNat)
    case atStart => exact ⟨0, Nat.zero_le _, isI _, rfl⟩
    case round =>
      obtain ⟨k, hk, ⟨z, rfl⟩, rfl⟩ := hrel
      by_cases hlt : k < rs.length
      · obtain ⟨hc0, hc1, hc2⟩ := hcell k hlt
        clear hcell
        go_wp2
        all_goals first
          | (go_ret; exact ⟨retB _, rfl⟩)
          | (go_round; (case rel => exact ⟨k + 1, by omega, isI _, by go_num⟩); (case measure => simp [intOf]; omega))
      · go_wp2
        all_goals (go_ret; exact ⟨retB _, rfl⟩)

theorem tooBig_any (a : Option Addr) (cap : Nat) (rs : List RD) (q u : ByteArray) (w : World) (h : RR w a rs) :
    Calls Try.prog 5 #[.slice a rs.length cap, .string q, .string u] w fun e w' => TB rs e ∧ Below w.heap.size w w' := by
  obtain ⟨hm, b, off, ha, hcell⟩ := h
  have hix := ix22 a rs.length cap b off (fun h => (ha (by intro e; simp [e] at h)).1)
  have hb0 : rs ≠ [] → b < w.heap.size := fun h => (ha h).2
  clear ha
  go_enter Try.func5, Try.ntmps5
  by_cases hbig : rs.length ≤ 65536
  · have hbg : ¬ ((65536 : Int) < rs.length) := by omega
    have key : ∀ e : Ending, RetB e → TB rs e := fun e h => ⟨h, fun _ => hbig⟩
    go_wp2
    all_goals first
      | (go_ret; exact ⟨key _ (retB _), Below.refl _ _⟩)
      | skip
    all_goals
      go_loopw [7, 8] (fun t i wr => ∃ (k : Nat), k ≤ rs.length ∧ IsI t ∧ i = .int .i64 k ∧ Below w.heap.size w wr) (fun t i wr => rs.length - (intOf i).toNat)
      case atStart => exact ⟨0, Nat.zero_le _, isI _, rfl, Below.refl _ _⟩
      case round =>
        obtain ⟨k, hk, ⟨z, rfl⟩, rfl, hbel⟩ := hrel
        by_cases hlt : k < rs.length
        · obtain ⟨hc0, hc1, hc2⟩ := hcell k hlt
          have hbl := hb0 (by intro e; simp [e] at hlt)
          have d1 : wr.cell? ⟨b, off + k * 3 + 1, none⟩ = _ := (hbel.cell (by exact hbl)).trans hc1
          have d2 : wr.cell? ⟨b, off + k * 3 + 2, none⟩ = _ := (hbel.cell (by exact hbl)).trans hc2
          have hx1 := hix k hlt
          clear hcell hc0 hc1 hc2
          go_wp2_with (go_region)
          all_goals first
            | (go_ret; exact ⟨key _ (retB _), hbel⟩)
            | (go_ret; exact ⟨key _ (retB _), hbel.drew⟩)
            | (go_roundw; (case rel => exact ⟨k + 1, by omega, isI _, by go_num, hbel.drew⟩); (case measure => simp [intOf]; omega))
        · go_wp2
          go_ret
          exact ⟨key _ (retB _), hbel⟩
  · have hbg : (65536 : Int) < rs.length := by omega
    go_wp2
    go_ret
    exact ⟨⟨retB _, fun h => by simp at h⟩, Below.refl _ _⟩

theorem nonDec_any (a : Option Addr) (cap : Nat) (rs : List RD) (w : World) (h : RR w a rs) :
    Calls Try.prog 6 #[.slice a rs.length cap] w fun e w' => RetB e ∧ Below w.heap.size w w' := by
  obtain ⟨hm, b, off, ha, hcell⟩ := h
  have hix := ix22 a rs.length cap b off (fun h => (ha (by intro e; simp [e] at h)).1)
  have hb0 : rs ≠ [] → b < w.heap.size := fun h => (ha h).2
  clear ha
  go_enter Try.func6, Try.ntmps6
  go_wp2
  go_loopw [3] (fun i wr => ∃ (j : Nat), 1 ≤ j ∧ (j ≤ rs.length ∨ j = 1) ∧ i = .int .i64 j ∧ Below w.heap.size w wr) (fun i wr => rs.length - (intOf i).toNat)
  case atStart => exact ⟨1, Nat.le_refl _, .inr rfl, rfl, Below.refl _ _⟩
  case round =>
    obtain ⟨j, h1, hj, rfl, hbel⟩ := hrel
    by_cases hlt : j < rs.length
    · obtain ⟨p, hp⟩ : ∃ p, j = p + 1 := ⟨j - 1, by omega⟩
      obtain ⟨hc0, hc1, hc2⟩ := hcell p (by omega)
      obtain ⟨hd0, hd1, hd2⟩ := hcell j hlt
      have hbl := hb0 (by intro e; simp [e] at hlt)
      have d1 : wr.cell? ⟨b, off + p * 3, none⟩ = _ := (hbel.cell (by exact hbl)).trans hc0
      have d2 : wr.cell? ⟨b, off + j * 3, none⟩ = _ := (hbel.cell (by exact hbl)).trans hd0
      have hx1 := hix p (by omega)
      have hx2 := hix j hlt
      have hx3 : ∀ W, (Instr.indexAt 22 (.slice a rs.length cap) (.int .i64 ((j : Int) - 1))).run Try.prog W = .ok (.pointer (some ⟨b, off + p * 3, none⟩)) W := by
        have e : (j : Int) - 1 = (p : Int) := by omega
        rw [e]; exact hx1
      clear hcell hc0 hc1 hc2 hd0 hd1 hd2 hix
      have HP := mkHid hp
      clear hp
      go_wp2_with (go_region)
      all_goals first
        | (go_ret; exact ⟨retB _, hbel.drew⟩)
        | (go_roundw; (case rel => exact ⟨j + 1, by omega, by omega, by go_num, hbel.drew⟩); (case measure => simp [intOf]; omega))
    · go_wp2
      go_ret
      exact ⟨retB _, hbel⟩
end Go.Proofs.Qxb6630623a
