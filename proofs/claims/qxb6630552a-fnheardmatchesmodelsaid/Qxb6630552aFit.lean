import Derived.Test.Qxb6630552aLists
namespace Go.Proofs.Qxb6630552a
set_option linter.unusedVariables false
set_option linter.unusedSimpArgs false
open Go.RowKit

theorem inTime_iff (x : Int) : inTime x = true ↔ -1152921504606846976 ≤ x ∧ x ≤ 1152921504606846976 := by simp [inTime]

set_option maxHeartbeats 2000000 in
theorem timesFit_any (a1 a2 : Option Addr) (c1 c2 : Nat) (ns : List ND) (hs : List HD) (now : Int) (w : World) (h1 : NR w a1 ns) (h2 : HR w a2 hs) :
    Calls Try.prog 7 #[.slice a1 ns.length c1, .slice a2 hs.length c2, .slice none 0 0, .int .i64 now] w fun e w' =>
      AnsB e (fun r => r = true → inTime now = true ∧ (∀ j, j < ns.length → inTime (ndAt ns j).seen = true ∧ inTime (ndAt ns j).rep = true ∧ inTime (ndAt ns j).reping = true) ∧ (∀ j, j < hs.length → (hdAt hs j).ago ≤ 1152921504606846976)) ∧ w' = w := by
  obtain ⟨hm1, b1, off1, ha1, hcell1⟩ := h1
  obtain ⟨hm2, b2, off2, ha2, hcell2⟩ := h2
  have hix1 := ix23 a1 ns.length c1 b1 off1 (fun h => (ha1 (by intro e; simp [e] at h)).1)
  have hix2 := ix24 a2 hs.length c2 b2 off2 (fun h => (ha2 (by intro e; simp [e] at h)).1)
  clear ha1 ha2
  by_cases q0 : inTime now = true
  case neg =>
    have q0 : inTime now = false := by simpa using q0
    go_enter Try.func7, Try.ntmps7
    go_wp2_with (go_at_call 21; refine (inTime_any _ _).mono ?_; rintro e w' ⟨rfl, rfl⟩)
    go_ret
    exact ⟨ansB_mk (fun h => by cases h), rfl⟩
  case pos =>
    go_enter Try.func7, Try.ntmps7
    go_wp2_with (go_at_call 21; refine (inTime_any _ _).mono ?_; rintro e w' ⟨rfl, rfl⟩)
    go_loop [17] (fun i => ∃ k : Nat, k ≤ ns.length ∧ i = .int .i64 k ∧ Hid (∀ j, j < k → inTime (ndAt ns j).seen = true ∧ inTime (ndAt ns j).rep = true ∧ inTime (ndAt ns j).reping = true)) (fun i => ns.length - (intOf i).toNat)
    case atStart => exact ⟨0, Nat.zero_le _, rfl, fun j hj => by omega⟩
    case round =>
      obtain ⟨k, hk, rfl, hno⟩ := hrel
      by_cases hlt : k < ns.length
      · obtain ⟨-, hc1, hc2, hc3, -, -, -⟩ := hcell1 k hlt
        clear hcell1 hcell2 hix2
        by_cases e1 : inTime (ndAt ns k).seen = true
        case neg =>
          have e1 : inTime (ndAt ns k).seen = false := by simpa using e1
          go_wp2_with (go_at_call 21; refine (inTime_any _ _).mono ?_; rintro e w' ⟨rfl, rfl⟩)
          go_ret
          exact ⟨ansB_mk (fun h => by cases h), rfl⟩
        by_cases e2 : inTime (ndAt ns k).rep = true
        case neg =>
          have e2 : inTime (ndAt ns k).rep = false := by simpa using e2
          go_wp2_with (go_at_call 21; refine (inTime_any _ _).mono ?_; rintro e w' ⟨rfl, rfl⟩)
          go_ret
          exact ⟨ansB_mk (fun h => by cases h), rfl⟩
        by_cases e3 : inTime (ndAt ns k).reping = true
        case neg =>
          have e3 : inTime (ndAt ns k).reping = false := by simpa using e3
          go_wp2_with (go_at_call 21; refine (inTime_any _ _).mono ?_; rintro e w' ⟨rfl, rfl⟩)
          go_ret
          exact ⟨ansB_mk (fun h => by cases h), rfl⟩
        go_wp2_with (go_at_call 21; refine (inTime_any _ _).mono ?_; rintro e w' ⟨rfl, rfl⟩)
        go_round
        case rel =>
          refine ⟨k + 1, by omega, by go_num, fun j hj => ?_⟩
          by_cases e : j = k
          · rw [e]; exact ⟨e1, e2, e3⟩
          · exact hno.out j (by omega)
        case measure => simp [intOf]; omega
      · have hall : Hid (∀ j, j < ns.length → inTime (ndAt ns j).seen = true ∧ inTime (ndAt ns j).rep = true ∧ inTime (ndAt ns j).reping = true) := fun j hj => hno.out j (by omega)
        clear hcell1 hix1 hno
        go_wp2
        go_loop [48] (fun i => ∃ k : Nat, k ≤ hs.length ∧ i = .int .i64 k ∧ Hid (∀ j, j < k → (hdAt hs j).ago ≤ 1152921504606846976)) (fun i => hs.length - (intOf i).toNat)
        case atStart => exact ⟨0, Nat.zero_le _, rfl, fun j hj => by omega⟩
        case round =>
          obtain ⟨k2, hk2, rfl, hno⟩ := hrel
          by_cases hlt2 : k2 < hs.length
          · obtain ⟨-, hc1⟩ := hcell2 k2 hlt2
            clear hcell2
            by_cases e1 : 1152921504606846976 < (hdAt hs k2).ago
            · go_wp2
              go_ret
              exact ⟨ansB_mk (fun h => by cases h), rfl⟩
            · go_wp2
              go_round
              case rel =>
                refine ⟨k2 + 1, by omega, by go_num, fun j hj => ?_⟩
                by_cases e : j = k2
                · rw [e]; omega
                · exact hno.out j (by omega)
              case measure => simp [intOf]; omega
          · go_wp2
            refine wp_loop_once ?_
            go_wp2
            go_ret
            exact ⟨ansB_mk (fun _ => ⟨q0, hall.out, fun j hj => hno.out j (by omega)⟩), rfl⟩

set_option maxRecDepth 100000 in
set_option maxHeartbeats 4000000 in
theorem bytes_any (ft now : Int) (a0 a1 a2 : Option Addr) (c0 c1 c2 : Nat) (ms : List ByteArray) (ns : List ND) (ad : ByteArray) (hs : List HD) (w : World) (h0 : SR w a0 ms) (h1 : NR w a1 ns) (h2 : HR w a2 hs) :
    Calls Try.prog 4 #[.int .i64 ft, .slice a0 ms.length c0, .slice a1 ns.length c1, .string ad, .slice a2 hs.length c2, .int .i64 now] w fun e w' =>
      AnsB e (fun _ => True) ∧ w' = w := by
  obtain ⟨hm0, b0, off0, ha0, hcell0⟩ := h0
  obtain ⟨hm1, b1, off1, ha1, hcell1⟩ := h1
  obtain ⟨hm2, b2, off2, ha2, hcell2⟩ := h2
  have hix0 := ix22 a0 ms.length c0 b0 off0 (fun h => (ha0 (by intro e; simp [e] at h)).1)
  have hix1 := ix23 a1 ns.length c1 b1 off1 (fun h => (ha1 (by intro e; simp [e] at h)).1)
  have hix2 := ix24 a2 hs.length c2 b2 off2 (fun h => (ha2 (by intro e; simp [e] at h)).1)
  clear ha0 ha1 ha2
  go_enter Try.func4, Try.ntmps4
  go_wp2
  · go_ret
    exact ⟨ansB_mk trivial, rfl⟩
  go_loop [13, 14] (fun n i => ∃ k : Nat, k ≤ ms.length ∧ i = .int .i64 k ∧ ∃ z : Int, n = .int .i64 z) (fun _ i => ms.length - (intOf i).toNat)
  case atStart => exact ⟨0, Nat.zero_le _, rfl, _, rfl⟩
  case round =>
    obtain ⟨k, hk, rfl, z, rfl⟩ := hrel
    by_cases hlt : k < ms.length
    · have hc := hcell0 k hlt
      clear hcell0 hcell1 hcell2 hix1 hix2
      go_wp2
      · go_ret
        exact ⟨ansB_mk trivial, rfl⟩
      · go_ret
        exact ⟨ansB_mk trivial, rfl⟩
      · go_round
        case rel => exact ⟨k + 1, by omega, by go_num, _, rfl⟩
        case measure => simp [intOf]; omega
    · clear hcell0 hix0
      go_wp2
      · go_ret
        exact ⟨ansB_mk trivial, rfl⟩
      · go_ret
        exact ⟨ansB_mk trivial, rfl⟩
      go_loop [13, 15] (fun n i => ∃ k : Nat, k ≤ ns.length ∧ i = .int .i64 k ∧ ∃ z : Int, n = .int .i64 z) (fun _ i => ns.length - (intOf i).toNat)
      case atStart => exact ⟨0, Nat.zero_le _, rfl, _, rfl⟩
      case round =>
        obtain ⟨k, hk, rfl, z, rfl⟩ := hrel
        by_cases hlt : k < ns.length
        · obtain ⟨hc0, -, -, -, -, hc5, hsr⟩ := hcell1 k hlt
          obtain ⟨hm3, b3, off3, ha3, hcell3⟩ := hsr
          have hix3 := ix22 (ndAt ns k).oa (ndAt ns k).old.length (ndAt ns k).ocap b3 off3 (fun h => (ha3 (by intro e; simp [e] at h)).1)
          clear ha3 hcell1 hcell2 hix2
          go_wp2
          · go_ret
            exact ⟨ansB_mk trivial, rfl⟩
          · go_ret
            exact ⟨ansB_mk trivial, rfl⟩
          · go_ret
            exact ⟨ansB_mk trivial, rfl⟩
          · go_ret
            exact ⟨ansB_mk trivial, rfl⟩
          go_loop [13, 16] (fun n i => ∃ k2 : Nat, k2 ≤ (ndAt ns k).old.length ∧ i = .int .i64 k2 ∧ ∃ z : Int, n = .int .i64 z) (fun _ i => (ndAt ns k).old.length - (intOf i).toNat)
          case atStart => exact ⟨0, Nat.zero_le _, rfl, _, rfl⟩
          case round =>
            obtain ⟨k2, hk2, rfl, z, rfl⟩ := hrel
            by_cases hlt2 : k2 < (ndAt ns k).old.length
            · have hc := hcell3 k2 hlt2
              clear hcell3
              go_wp2
              · go_ret
                exact ⟨ansB_mk trivial, rfl⟩
              · go_ret
                exact ⟨ansB_mk trivial, rfl⟩
              · go_round
                case rel => exact ⟨k2 + 1, by omega, by go_num, _, rfl⟩
                case measure => simp [intOf]; omega
            · clear hcell3 hix3
              go_wp2
              go_round
              case rel => exact ⟨k + 1, by omega, by go_num, _, rfl⟩
              case measure => simp [intOf]; omega
        · clear hcell1 hix1
          go_wp2
          · go_ret
            exact ⟨ansB_mk trivial, rfl⟩
          · go_ret
            exact ⟨ansB_mk trivial, rfl⟩
          · go_ret
            exact ⟨ansB_mk trivial, rfl⟩
          · go_ret
            exact ⟨ansB_mk trivial, rfl⟩
          go_loop [13, 17] (fun n i => ∃ k : Nat, k ≤ hs.length ∧ i = .int .i64 k ∧ ∃ z : Int, n = .int .i64 z) (fun _ i => hs.length - (intOf i).toNat)
          case atStart => exact ⟨0, Nat.zero_le _, rfl, _, rfl⟩
          case round =>
            obtain ⟨k, hk, rfl, z, rfl⟩ := hrel
            by_cases hlt : k < hs.length
            · obtain ⟨hc, -⟩ := hcell2 k hlt
              clear hcell2
              go_wp2
              · go_ret
                exact ⟨ansB_mk trivial, rfl⟩
              · go_ret
                exact ⟨ansB_mk trivial, rfl⟩
              · go_round
                case rel => exact ⟨k + 1, by omega, by go_num, _, rfl⟩
                case measure => simp [intOf]; omega
            · go_wp2
              go_ret
              exact ⟨ansB_mk trivial, rfl⟩

set_option maxRecDepth 100000 in
set_option maxHeartbeats 4000000 in
theorem within_any (a0 a1 a2 : Option Addr) (c0 c1 c2 : Nat) (ms : List ByteArray) (ns : List ND) (ad : ByteArray) (hs : List HD) (w : World) (h0 : SR w a0 ms) (h1 : NR w a1 ns) (h2 : HR w a2 hs) :
    Calls Try.prog 5 #[.slice a0 ms.length c0, .slice a1 ns.length c1, .string ad, .slice a2 hs.length c2, .slice none 0 0] w fun e w' =>
      AnsB e (fun _ => True) ∧ w' = w := by
  obtain ⟨hm0, b0, off0, ha0, hcell0⟩ := h0
  obtain ⟨hm1, b1, off1, ha1, hcell1⟩ := h1
  obtain ⟨hm2, b2, off2, ha2, hcell2⟩ := h2
  have hix0 := ix22 a0 ms.length c0 b0 off0 (fun h => (ha0 (by intro e; simp [e] at h)).1)
  have hix1 := ix23 a1 ns.length c1 b1 off1 (fun h => (ha1 (by intro e; simp [e] at h)).1)
  have hix2 := ix24 a2 hs.length c2 b2 off2 (fun h => (ha2 (by intro e; simp [e] at h)).1)
  clear ha0 ha1 ha2
  go_enter Try.func5, Try.ntmps5
  go_wp2
  · go_ret
    exact ⟨ansB_mk trivial, rfl⟩
  go_loop [11, 23] (fun n i => ∃ k : Nat, k ≤ ms.length ∧ i = .int .i64 k ∧ ∃ z : Int, n = .int .i64 z) (fun _ i => ms.length - (intOf i).toNat)
  case atStart => exact ⟨0, Nat.zero_le _, rfl, _, rfl⟩
  case round =>
    obtain ⟨k, hk, rfl, z, rfl⟩ := hrel
    by_cases hlt : k < ms.length
    · have hc := hcell0 k hlt
      clear hcell0 hcell1 hcell2 hix1 hix2
      go_wp2
      · go_ret
        exact ⟨ansB_mk trivial, rfl⟩
      · go_round
        case rel => exact ⟨k + 1, by omega, by go_num, _, rfl⟩
        case measure => simp [intOf]; omega
    · clear hcell0 hix0
      go_wp2
      go_loop [11, 39] (fun n i => ∃ k : Nat, k ≤ ns.length ∧ i = .int .i64 k ∧ ∃ z : Int, n = .int .i64 z) (fun _ i => ns.length - (intOf i).toNat)
      case atStart => exact ⟨0, Nat.zero_le _, rfl, _, rfl⟩
      case round =>
        obtain ⟨k, hk, rfl, z, rfl⟩ := hrel
        by_cases hlt : k < ns.length
        · obtain ⟨hc0, -, -, -, -, hc5, hsr⟩ := hcell1 k hlt
          obtain ⟨hm3, b3, off3, ha3, hcell3⟩ := hsr
          have hix3 := ix22 (ndAt ns k).oa (ndAt ns k).old.length (ndAt ns k).ocap b3 off3 (fun h => (ha3 (by intro e; simp [e] at h)).1)
          clear ha3 hcell1 hcell2 hix2
          go_wp2
          · go_ret
            exact ⟨ansB_mk trivial, rfl⟩
          go_loop [11, 59] (fun n i => ∃ k2 : Nat, k2 ≤ (ndAt ns k).old.length ∧ i = .int .i64 k2 ∧ ∃ z : Int, n = .int .i64 z) (fun _ i => (ndAt ns k).old.length - (intOf i).toNat)
          case atStart => exact ⟨0, Nat.zero_le _, rfl, _, rfl⟩
          case round =>
            obtain ⟨k2, hk2, rfl, z, rfl⟩ := hrel
            by_cases hlt2 : k2 < (ndAt ns k).old.length
            · have hc := hcell3 k2 hlt2
              clear hcell3
              go_wp2
              · go_ret
                exact ⟨ansB_mk trivial, rfl⟩
              · go_round
                case rel => exact ⟨k2 + 1, by omega, by go_num, _, rfl⟩
                case measure => simp [intOf]; omega
            · clear hcell3 hix3
              go_wp2
              go_round
              case rel => exact ⟨k + 1, by omega, by go_num, _, rfl⟩
              case measure => simp [intOf]; omega
        · clear hcell1 hix1
          go_wp2
          go_loop [11, 80] (fun n i => ∃ k : Nat, k ≤ hs.length ∧ i = .int .i64 k ∧ ∃ z : Int, n = .int .i64 z) (fun _ i => hs.length - (intOf i).toNat)
          case atStart => exact ⟨0, Nat.zero_le _, rfl, _, rfl⟩
          case round =>
            obtain ⟨k, hk, rfl, z, rfl⟩ := hrel
            by_cases hlt : k < hs.length
            · obtain ⟨hc, -⟩ := hcell2 k hlt
              clear hcell2
              go_wp2
              · go_ret
                exact ⟨ansB_mk trivial, rfl⟩
              · go_round
                case rel => exact ⟨k + 1, by omega, by go_num, _, rfl⟩
                case measure => simp [intOf]; omega
            · go_wp2
              refine wp_loop_once ?_
              go_wp2
              go_ret
              exact ⟨ansB_mk trivial, rfl⟩
end Go.Proofs.Qxb6630552a
