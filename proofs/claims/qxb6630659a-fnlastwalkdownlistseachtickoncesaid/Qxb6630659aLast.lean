import Derived.Test.Qxb6630659aLastBit
/- THE WALK of Last (8). -/
namespace Go.Proofs.Qxb6630659a
set_option linter.unusedVariables false
set_option linter.unusedSimpArgs false
open Go.RowKit

theorem lastBit_none (f : Nat → Bool) (sl : Value) (fr tt : Int) (w : World) (h : tt < fr) :
    Calls Try.prog 12 #[sl, .int .i64 fr, .int .i64 tt] w fun e w' => LBpost f fr tt e ∧ w' = w := by
  go_enter Try.func12, Try.ntmps12
  go_wp2
  go_ret2
  exact ⟨⟨0, false, rfl, (fun h => by simp at h), fun _ j h1 h2 => by omega⟩, rfl⟩

theorem lastBit_all (f : Nat → Bool) (g n cap : Nat) (fr tt : Int) (w : World) (hf : 0 ≤ fr) (ht : tt < 64 * n) (hn : n ≤ 64)
    (hcell : ∀ i, i < n → w.cell? ⟨g, i, none⟩ = some (wv fun j => f (i * 64 + j))) :
    Calls Try.prog 12 #[.slice (some ⟨g, 0, none⟩) n cap, .int .i64 fr, .int .i64 tt] w fun e w' => LBpost f fr tt e ∧ w' = w := by
  by_cases h : tt < fr
  · exact lastBit_none f _ fr tt w h
  · obtain ⟨F, rfl⟩ : ∃ F : Nat, fr = F := ⟨fr.toNat, by omega⟩
    obtain ⟨T, rfl⟩ : ∃ T : Nat, tt = T := ⟨tt.toNat, by omega⟩
    exact lastBit_any f g n cap F T w (by omega) (by omega) hn hcell

/-- Q b: does block b hold a tick? -/
def AnyIn (P Q : Nat → Bool) : Prop := ∀ b, Q b = false ↔ ∀ i, i < 4096 → P (b * 4096 + i) = false

/-- The two rows of a TickSet. -/
def BS (w : World) (bb hb : Nat) (P Q : Nat → Bool) : Prop :=
  (∀ b, b < 434 → (w.cell? ⟨bb, b, none⟩ = some (.pointer none) ∧ Q b = false) ∨ ∃ g, w.cell? ⟨bb, b, none⟩ = some (.pointer (some ⟨g, 0, none⟩)) ∧ ∀ i, i < 64 → w.cell? ⟨g, i, none⟩ = some (wv fun j => P (b * 4096 + (i * 64 + j)))) ∧
  (∀ i, i < 7 → w.cell? ⟨hb, i, none⟩ = some (wv fun j => Q (i * 64 + j)))
/-- A TickSet at sb that holds the offsets P. -/
def TSet (w : World) (sb : Nat) (P Q : Nat → Bool) : Prop :=
  (w.cell? ⟨sb, 0, none⟩ = some (.slice none 0 0) ∧ ∀ j, P j = false) ∨
  ∃ bb hb, w.cell? ⟨sb, 0, none⟩ = some (.slice (some ⟨bb, 0, none⟩) 434 434) ∧ w.cell? ⟨sb, 1, none⟩ = some (.slice (some ⟨hb, 0, none⟩) 7 7) ∧ BS w bb hb P Q

theorem cell_below {w w' : World} {a : Addr} {v : Value} (h : w.cell? a = some v) (hb : Below w.heap.size w w') : w'.cell? a = some v :=
  (hb.cell (World.block_lt_of_cell? w a h)).trans h
theorem BS.below {w w' : World} {bb hb : Nat} {P Q : Nat → Bool} (h : BS w bb hb P Q) (hbel : Below w.heap.size w w') : BS w' bb hb P Q := by
  refine ⟨fun b hlt => ?_, fun i hi => cell_below (h.2 i hi) hbel⟩
  rcases h.1 b hlt with ⟨h1, h2⟩ | ⟨g, h1, h2⟩
  · exact .inl ⟨cell_below h1 hbel, h2⟩
  · exact .inr ⟨g, cell_below h1 hbel, fun i hi => cell_below (h2 i hi) hbel⟩
theorem TSet.below {w w' : World} {sb : Nat} {P Q : Nat → Bool} (h : TSet w sb P Q) (hbel : Below w.heap.size w w') : TSet w' sb P Q := by
  rcases h with ⟨h1, h2⟩ | ⟨bb, hb, h1, h2, h3⟩
  · exact .inl ⟨cell_below h1 hbel, h2⟩
  · exact .inr ⟨bb, hb, cell_below h1 hbel, cell_below h2 hbel, h3.below hbel⟩

/-- What Last answers, in offsets. -/
def LS (P : Nat → Bool) (lo hi : Nat) (r : Int) (ok : Bool) : Prop :=
  (ok = true → ∃ i : Nat, r = (i : Int) - 887272 ∧ lo ≤ i ∧ i ≤ hi ∧ P i = true ∧ ∀ j, i < j → j ≤ hi → P j = false) ∧ (ok = false → r = 0 ∧ ∀ j, lo ≤ j → j ≤ hi → P j = false)
def LSpost (P : Nat → Bool) (lo hi : Nat) (e : Ending) : Prop := ∃ r ok, e = .returned (.tuple #[.int .i64 r, .bool ok]) ∧ LS P lo hi r ok

theorem ix32i (g n cap k : Nat) (hk : k < n) : ∀ W, (Instr.indexAt 32 (.slice (some ⟨g, 0, none⟩) n cap) (.int .i64 (k : Int))).run Try.prog W = .ok (.pointer (some ⟨g, k, none⟩)) W := fun W => ix32 g n cap k hk W
def av (f : Nat → Bool) (r : Nat) : Value := .int .u64 ((word f &&& 2 ^ r : Nat) : Int)
theorem u64wrap_pow (r : Nat) (hr : r < 64) : IntKind.u64.wrap (2 ^ r) = ((2 ^ r : Nat) : Int) := by
  have : ∀ r : Fin 64, IntKind.u64.wrap (2 ^ r.val) = ((2 ^ r.val : Nat) : Int) := by decide +kernel
  exact this ⟨r, hr⟩
theorem pow_lt64 (r : Nat) (hr : r < 64) : 2 ^ r < 18446744073709551616 := by
  have : 2 ^ r < 2 ^ 64 := Nat.pow_lt_pow_right (by omega) hr
  omega
theorem and_bit (f : Nat → Bool) (r : Nat) (hr : r < 64) : ∀ W, (binOp .and 34 (wv f) (.int .u64 (IntKind.u64.wrap (2 ^ r)))).run Try.prog W = .ok (av f r) W := by
  intro W
  rw [u64wrap_pow r hr]
  have hx := bits_and_u64_nat (word f) (2 ^ r) (word_lt f) (pow_lt64 r hr)
  unfold wv av
  rw [← hx]
  go_simp
theorem neq_av (f : Nat → Bool) (r : Nat) (hr : r < 64) : ∀ W, (binOp .neq 34 (av f r) (.int .u64 0)).run Try.prog W = .ok (.bool (f r)) W := by
  intro W
  have e : (((word f &&& 2 ^ r : Nat) : Int) != 0) = f r := by
    rw [Bool.eq_iff_iff]
    have := word_and_bit f r hr
    cases hf : f r
    · simp [this.2 hf]
    · have : ¬ (word f &&& 2 ^ r = 0) := fun h => by rw [this.1 h] at hf; cases hf
      have h2 : ¬ (((word f &&& 2 ^ r : Nat) : Int) = 0) := by omega
      simp only [bne_iff_ne, ne_eq, h2, not_false_eq_true]
  unfold av
  rw [← e]
  go_simp
theorem av_guard (f : Nat → Bool) (r : Nat) : ∀ (x y : Operand) (W : World), (eqGuard .neq 34 x y (av f r) (.int .u64 0)).run Try.prog W = .ok () W := by
  intro x y W
  unfold av
  go_simp
theorem ix31i (g n cap k : Nat) (hk : k < n) : ∀ W, (Instr.indexAt 31 (.slice (some ⟨g, 0, none⟩) n cap) (.int .i64 (k : Int))).run Try.prog W = .ok (.pointer (some ⟨g, k, none⟩)) W := by
  intro W
  have h2 : (0 : Int) ≤ k := by omega
  have h3 : (k : Int) < n := by omega
  go_simp
theorem neq31 (W : World) (a : Option Addr) (n c : Nat) : (binOp .neq 31 (.slice a n c) (.slice none 0 0)).run Try.prog W = .ok (.bool (!a.isNone)) W := run_neq_slice_nil_any W 31 33 a n c 0 0 Try.underlying31

theorem last_hit (P : Nat → Bool) (lo hi m : Nat) (fr i : Int) (hm : m ≤ hi) (hhi : hi ≤ 1774544) (h : LB (fun j => P (m / 4096 * 4096 + j)) fr ((m : Int) % 4096) i true) (hf : 0 ≤ fr ∧ (lo : Int) - (m : Int) / 4096 * 4096 ≤ fr)
    (hno : ∀ j, lo ≤ j → m < j → j ≤ hi → P j = false) : LS P lo hi (wrap64 (wrap64 ((m : Int) / 4096 * 4096 + i) + -887272)) true := by
  obtain ⟨h1, h2, h3, h4⟩ := h.1 rfl
  obtain ⟨k, rfl⟩ : ∃ k : Nat, i = k := ⟨i.toNat, by omega⟩
  rw [Int.toNat_natCast] at h3
  refine ⟨fun _ => ⟨m / 4096 * 4096 + k, by unfold wrap64; omega, by omega, by omega, h3, fun j hj hjh => ?_⟩, fun h => by simp at h⟩
  by_cases e : m < j
  · exact hno j (by omega) e hjh
  · have := h4 (j - m / 4096 * 4096) (by omega) (by omega)
    simpa [show m / 4096 * 4096 + (j - m / 4096 * 4096) = j by omega] using this
theorem last_miss (P : Nat → Bool) (lo m : Nat) (fr i : Int) (h : LB (fun j => P (m / 4096 * 4096 + j)) fr ((m : Int) % 4096) i false) (hf : fr ≤ 0 ∨ fr ≤ (lo : Int) - (m : Int) / 4096 * 4096) :
    Hid (∀ j, lo ≤ j → m / 4096 * 4096 ≤ j → j ≤ m → P j = false) := by
  intro j q1 q2 q3
  have := h.2 rfl (j - m / 4096 * 4096) (by omega) (by omega)
  simpa [show m / 4096 * 4096 + (j - m / 4096 * 4096) = j by omega] using this

theorem last_down (m' m : Nat) (v : Int) (h : v = m') (hlt : m' < m) : (intOf (Value.int IntKind.i64 v)).toNat < (intOf (Value.int IntKind.i64 (m : Int))).toNat := by
  subst h
  exact hlt

set_option maxRecDepth 20000 in
theorem last_any (P Q : Nat → Bool) (hQ0 : AnyIn P Q) (sb lo hi : Nat) (w : World) (h : TSet w sb P Q) (hlo : lo ≤ 1774544) (hhi : hi ≤ 1774544) :
    Calls Try.prog 8 #[.pointer (some ⟨sb, 0, none⟩), .int .i64 ((lo : Int) - 887272), .int .i64 ((hi : Int) - 887272)] w fun e w' => LSpost P lo hi e ∧ Below w.heap.size w w' := by
  have nq := neq31
  have HQ := mkHid hQ0
  clear hQ0
  rcases h with ⟨h1, h2⟩ | ⟨bb, hb, h1, h2, h3⟩
  · have H2 := mkHid h2
    clear h2
    go_enter Try.func8, Try.ntmps8
    go_wp2
    refine wp_loop_once ?_
    go_wp2
    go_ret2
    exact ⟨⟨0, false, rfl, (fun h => by simp at h), fun _ => ⟨rfl, fun j _ _ => H2.out j⟩⟩, Below.refl _ _⟩
  · go_enter Try.func8, Try.ntmps8
    go_wp2
    go_loopw [2] (fun v wr => ∃ m : Nat, m ≤ hi ∧ v = .int .i64 m ∧ Hid (∀ j, lo ≤ j → m < j → j ≤ hi → P j = false) ∧ Hid (Below w.heap.size w wr)) (fun v _ => (intOf v).toNat)
    case atStart => exact ⟨hi, Nat.le_refl _, rfl, fun j _ h1 h2 => by omega, Below.refl _ _⟩
    case round =>
      obtain ⟨m, hm, rfl, hno, hbel⟩ := hrel
      have k1 := cell_below h1 hbel.out
      have k2 := cell_below h2 hbel.out
      have H3 := mkHid (h3.below hbel.out)
      by_cases hlm : lo ≤ m
      · have hb1 : m / 4096 < 434 := by omega
        have hw := H3.out.2 (m / 4096 / 64) (by omega)
        have hx := ix32i hb 7 7 (m / 4096 / 64) (by omega)
        have hxi : ((m / 4096 / 64 : Nat) : Int) = (m : Int) / 4096 / 64 := by omega
        rw [hxi] at hx
        have hand := and_bit (fun j => Q (m / 4096 / 64 * 64 + j)) (m / 4096 % 64) (by omega)
        have hneq := neq_av (fun j => Q (m / 4096 / 64 * 64 + j)) (m / 4096 % 64) (by omega)
        have hgd := av_guard (fun j => Q (m / 4096 / 64 * 64 + j)) (m / 4096 % 64)
        have hbq : m / 4096 / 64 * 64 + m / 4096 % 64 = m / 4096 := by omega
        rw [hbq] at hneq
        clear h1 h2 h3 hxi hbq
        go_upto_region 4 with (fail)
        go_region
        have hdb : Below w.heap.size w wr.drew := hbel.out.drew
        have HDB := mkHid hdb
        have hbl : wr.drew.cell? ⟨bb, m / 4096, none⟩ = wr.cell? ⟨bb, m / 4096, none⟩ := rfl
        clear hbel hdb hand hneq hgd hw hx
        have HH := H3.out.1 (m / 4096) hb1
        have HHH := mkHid HH
        clear HH
        go_upto_if 41 with (fail)
        go_cut [9, 10] (fun s9 s10 wc => Hid (∀ j, lo ≤ j → m / 4096 * 4096 ≤ j → j ≤ m → P j = false) ∧ wc = wr.drew)
        case first =>
          cases han : Q (m / 4096)
          · go_wp2
            go_meet
            case rel =>
              refine ⟨fun j q1 q2 q3 => ?_, rfl⟩
              have := (HQ.out (m / 4096)).1 han (j - m / 4096 * 4096) (by omega)
              rwa [show m / 4096 * 4096 + (j - m / 4096 * 4096) = j by omega] at this
          · rcases HHH.out with ⟨_, q2⟩ | ⟨g, q1, q2⟩
            · rw [han] at q2; cases q2
            · have hxb := ix31i bb 434 434 (m / 4096) hb1
              have hxi : ((m / 4096 : Nat) : Int) = (m : Int) / 4096 := by omega
              rw [hxi] at hxb
              clear hxi
              have HQ2 := mkHid q2
              clear q2
              go_wp2_with (first | (go_at_call 12; refine (lastBit_all (fun j => P (m / 4096 * 4096 + j)) g 64 _ _ _ wr.drew (by omega) (by omega) (by omega) HQ2.out).mono ?_; rintro e w' ⟨⟨i, ok, rfl, hLB⟩, hw'⟩; have hw' := hw'.symm; subst hw'))
              · have hok : ok = true := by assumption
                subst hok
                go_ret2
                exact ⟨⟨_, _, rfl, last_hit P lo hi m _ i hm hhi hLB (by omega) hno.out⟩, HDB.out⟩
              · have hok : ok = false := by assumption
                subst hok
                go_meet
                case rel => exact ⟨last_miss P lo m _ i hLB (by omega), rfl⟩
        case rest =>
          obtain ⟨hcm, hwc⟩ := hcut
          subst hwc
          go_wp2_with (first | (go_at_call 12; refine (lastBit_all Q hb 7 _ _ _ wr.drew (by omega) (by omega) (by omega) H3.out.2).mono ?_; rintro e w' ⟨⟨i, ok, rfl, hLB⟩, hw'⟩; have hw' := hw'.symm; subst hw'))
          · have hq : (!ok) = true := by assumption
            have hok : ok = false := by simpa using hq
            subst hok
            go_ret2
            refine ⟨⟨_, _, rfl, (fun h => by simp at h), fun _ => ⟨rfl, fun j q1 q2 => ?_⟩⟩, HDB.out⟩
            by_cases e1 : m < j
            · exact hno.out j q1 e1 q2
            · by_cases e2 : m / 4096 * 4096 ≤ j
              · exact hcm.out j q1 e2 (by omega)
              · have := (HQ.out (j / 4096)).1 (hLB.2 rfl (j / 4096) (by omega) (by omega)) (j % 4096) (by omega)
                rwa [show j / 4096 * 4096 + j % 4096 = j by omega] at this
          · have hq : (!ok) = false := by assumption
            have hok : ok = true := by simpa using hq
            subst hok
            obtain ⟨b1, b2, b3, b4⟩ := hLB.1 rfl
            obtain ⟨t, rfl⟩ : ∃ t : Nat, i = t := ⟨i.toNat, by omega⟩
            obtain ⟨m', hm'⟩ : ∃ m' : Nat, m' = t * 4096 + 4095 := ⟨_, rfl⟩
            have hwr : wrap64 (wrap64 (wrap64 ((t : Int) + 1) * 4096) - 1) = (m' : Int) := by unfold wrap64; omega
            have hno' : Hid (∀ j, lo ≤ j → m' < j → j ≤ hi → P j = false) := by
              intro j q1 q2 q3
              by_cases e1 : m < j
              · exact hno.out j q1 e1 q3
              · by_cases e2 : m / 4096 * 4096 ≤ j
                · exact hcm.out j q1 e2 (by omega)
                · have := (HQ.out (j / 4096)).1 (b4 (j / 4096) (by omega) (by omega)) (j % 4096) (by omega)
                  rwa [show j / 4096 * 4096 + j % 4096 = j by omega] at this
            go_roundw
            case rel => exact ⟨m', by omega, by rw [hwr], hno', HDB.out⟩
            case measure => exact last_down m' m _ hwr (by omega)
      · go_wp2
        go_ret2
        exact ⟨⟨0, false, rfl, (fun h => by simp at h), fun _ => ⟨rfl, fun j q1 q2 => hno.out j q1 (by omega) q2⟩⟩, hbel.out⟩
end Go.Proofs.Qxb6630659a
