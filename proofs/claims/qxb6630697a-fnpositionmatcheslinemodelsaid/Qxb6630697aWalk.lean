import Derived.Test.Qxb6630697aChecked
import Derived.Test.Qxb6630697aPlain
import Derived.WalkKit
import Derived.WalkSpells
import Derived.WalkLawsBesides
import Derived.BigQuiet
import Derived.Laws.RangeAny
import Derived.Deep.RegionWith
import Derived.Deep.DeepCutAuto
import Derived.Deep.CutBlock
import Derived.Below
/- THE WALKS of Position (6) and zzb1LineEndAt (7). -/
namespace Go.Proofs.Qxb6630697a
set_option linter.unusedVariables false
set_option linter.unusedSimpArgs false
open Go.RowKit

theorem mkHid {p : Prop} (h : p) : Hid p := h
/-- The byte at place j of a text. -/
def bt (t : ByteArray) (j : Nat) : Nat := (t.get! j).toNat
theorem bt_lt (t : ByteArray) (j : Nat) : bt t j < 256 := (t.get! j).toNat_lt
theorem ixs (t : ByteArray) (k : Nat) (hk : k < t.size) : ∀ W, (Instr.index 9 (.string t) (.int .i64 (k : Int))).run Try.prog W = .ok (.int .u8 ((bt t k : Nat) : Int)) W := by
  intro W
  have h2 : (0 : Int) ≤ k := by omega
  have h3 : (k : Int) < t.size := by omega
  have e : t.get! k = t[k]'hk := get_at t k hk
  unfold bt
  rw [e]
  go_simp
theorem Grown.iter {W w' : World} (h : Grown W w') (s : ByteArray) (p : Nat) : Grown W (w'.iter s p) := by
  refine ⟨World.keptBut_trans h.1 (World.keptBut_alloc _ _ _), fun a => ?_, Nat.le_trans h.2.2 (by show w'.heap.size ≤ (w'.heap.push _).size; simp)⟩
  refine Eq.trans ?_ (h.2.1 a)
  by_cases e : a.block = w'.heap.size
  · have e1 : (w'.iter s p).heap[a.block]? = some (.stringIter s p) := by rw [e]; exact World.iter_heap w' s p
    have e2 : w'.heap[a.block]? = none := by rw [e]; simp
    simp [World.frozen?, e1, e2]
  · exact World.frozen?_alloc_old _ _ _ e
theorem Grown.trans {a b c : World} (h : Grown a b) (k : Grown b c) : Grown a c := by
  refine ⟨World.keptBut_trans h.1 ?_, fun x => (k.2.1 x).trans (h.2.1 x), Nat.le_trans h.2.2 k.2.2⟩
  exact k.1

theorem lineEnd_any (t : ByteArray) (j : Nat) (w : World) (hj : j < t.size) (hN : t.size ≤ 1099511627776) :
    Calls Try.prog 7 #[.string t, .int .i64 (j : Int)] w fun e w' => e = .returned (.bool (LE (bt t) t.size j)) ∧ w' = w := by
  have hx := ixs t j hj
  obtain ⟨b, hb⟩ : ∃ b, b = bt t j := ⟨_, rfl⟩
  rw [← hb] at hx
  by_cases h1 : b = 10
  · rw [show LE (bt t) t.size j = true from (LE_iff _ _ _).2 (.inl (by omega))]
    clear hb
    subst h1
    go_enter Try.func7, Try.ntmps7
    go_wp2
    go_ret
    first | done | exact ⟨rfl, rfl⟩
  · have e1 : ((b : Int) = 10) = False := eq_false (by omega)
    have e2 : ((b : Int) == 10) = false := by rw [beq_eq_false_iff_ne]; omega
    by_cases h2 : b = 13
    · by_cases h3 : j + 1 < t.size
      · have hx1 := ixs t (j + 1) h3
        have hj1 : ((j + 1 : Nat) : Int) = (j : Int) + 1 := by omega
        rw [hj1] at hx1
        clear hj1
        obtain ⟨b', hb'⟩ : ∃ b', b' = bt t (j + 1) := ⟨_, rfl⟩
        rw [← hb'] at hx1
        have g1 : ¬ ((t.size : Int) ≤ (j : Int) + 1) := by omega
        by_cases h4 : b' = 10
        · rw [LE_false (bt t) t.size j (by omega)]
          clear hb hb'
          subst h2 h4
          go_enter Try.func7, Try.ntmps7
          go_wp2
          go_ret
          first | done | exact ⟨rfl, rfl⟩
        · have e3 : ((b' : Int) = 10) = False := eq_false (by omega)
          have e4 : ((b' : Int) != 10) = true := by rw [bne_iff_ne]; omega
          rw [show LE (bt t) t.size j = true from (LE_iff _ _ _).2 (.inr ⟨by omega, by omega⟩)]
          clear hb hb'
          subst h2
          go_enter Try.func7, Try.ntmps7
          go_wp2
          go_ret
          first | done | exact ⟨rfl, rfl⟩
      · have g1 : ((t.size : Int) ≤ (j : Int) + 1) := by omega
        rw [show LE (bt t) t.size j = true from (LE_iff _ _ _).2 (.inr ⟨by omega, by omega⟩)]
        clear hb
        subst h2
        go_enter Try.func7, Try.ntmps7
        go_wp2
        go_ret
        first | done | exact ⟨rfl, rfl⟩
    · have e3 : ((b : Int) = 13) = False := eq_false (by omega)
      have e4 : ((b : Int) == 13) = false := by rw [beq_eq_false_iff_ne]; omega
      rw [LE_false (bt t) t.size j (by omega)]
      clear hb
      go_enter Try.func7, Try.ntmps7
      go_wp2
      go_ret
      first | done | exact ⟨rfl, rfl⟩
theorem head_size (t : ByteArray) (off : Nat) (h : off ≤ t.size) : (t.extract 0 off).size = off := by
  rw [ByteArray.size_extract]; omega
theorem head_get (t : ByteArray) (off j : Nat) (h : off ≤ t.size) (hj : j < off) : bt (t.extract 0 off) j = bt t j := by
  unfold bt
  have h1 : j < (t.extract 0 off).size := by rw [head_size t off h]; exact hj
  have e1 : (t.extract 0 off).get! j = (t.extract 0 off)[j]'h1 := get_at _ j h1
  have e2 : t.get! j = t[j]'(by omega) := get_at t j (by omega)
  rw [e1, e2]
  congr 1
  rw [ByteArray.getElem_extract]
  simp
theorem head_decode (t : ByteArray) (off i : Nat) (h : off ≤ t.size) (hi : i < off) : Utf8.decode (t.extract 0 off) i = DB (bt t) off i := by
  rw [Lib.decode_at, head_size t off h]
  show DB (bt (t.extract 0 off)) off i = _
  exact DB_congr _ _ off i hi (fun j _ hj => head_get t off j h hj)
def PosP (t : ByteArray) (off : Nat) (e : Ending) : Prop := e = .returned (.tuple #[.int .i64 ((PL (bt t) t.size off : Nat) : Int), .int .i64 ((PC (bt t) t.size off : Nat) : Int)])

set_option maxRecDepth 20000 in
theorem position_any (t : ByteArray) (off : Nat) (w : World) (ho : off ≤ t.size) (hN : t.size ≤ 1099511627776) :
    Calls Try.prog 6 #[.string t, .int .i64 (off : Int)] w fun e w' => PosP t off e ∧ Grown w w' := by
  have hoi : (off : Int) ≤ t.size := by omega
  have hs := head_size t off ho
  obtain ⟨u, hu⟩ : ∃ u, u = t.extract 0 off := ⟨_, rfl⟩
  have HU := mkHid hu
  rw [← hu] at hs
  have hdec : ∀ i, i < off → Utf8.decode u i = DB (bt t) off i := fun i hi => by rw [hu]; exact head_decode t off i ho hi
  have HD := mkHid hdec
  have hsl : ∀ W, (Instr.slice 9 (.string t) none (some (.int .i64 (off : Int))) none).run Try.prog W = .ok (.string u) W := by
    intro W
    rw [hu]
    have h2 : (0 : Int) ≤ off := by omega
    go_simp
  clear hu hdec
  go_enter Try.func6, Try.ntmps6
  go_wp2
  clear hsl
  go_loopw [4, 5] (fun v4 v5 wr => ∃ (i l c : Nat), v4 = .int .i64 l ∧ v5 = .int .i64 c ∧ wr = w.iter u i ∧ Hid (PInv (bt t) t.size off i l c)) (fun _ _ wr => off - wr.iterPos w.heap.size)
  case atStart => exact ⟨0, 1, 1, rfl, rfl, rfl, PInv.start _ _ _⟩
  case round =>
    obtain ⟨i, l, c, rfl, rfl, rfl, hI⟩ := hrel
    by_cases hi : i < off
    · have hnx : ∀ ty, (Instr.next (.pointer (some ⟨w.heap.size, 0, none⟩)) true ty).run Try.prog (w.iter u i) = _ := fun ty => run_next_any w u i ty (by omega)
      rw [HD.out i hi] at hnx
      have hlb : l ≤ 1 + i := by rw [hI.out.line]; exact PL_le _ _ _
      have hcb := hI.out.cle
      obtain ⟨b, hb⟩ : ∃ b, b = bt t i := ⟨_, rfl⟩
      by_cases h1 : b = 10
      · have hd : DB (bt t) off i = (10, 1) := by unfold DB; rw [← hb, h1]; rfl
        rw [hd] at hnx
        have hP := mkHid (hI.out.ret hi ((LE_iff _ _ _).2 (.inl (by omega))))
        clear hb h1 hd
        go_wp2
        go_roundw
        case rel => exact ⟨i + 1, l + 1, 1, by go_num, rfl, rfl, hP.out⟩
        case measure => simp; omega
      · by_cases h2 : b = 13
        · have hd : DB (bt t) off i = (13, 1) := by unfold DB; rw [← hb, h2]; rfl
          rw [hd] at hnx
          clear hd
          by_cases h3 : i + 1 < t.size
          · have hx1 := ixs t (i + 1) h3
            have hj1 : ((i + 1 : Nat) : Int) = (i : Int) + 1 := by omega
            rw [hj1] at hx1
            clear hj1
            obtain ⟨b', hb'⟩ : ∃ b', b' = bt t (i + 1) := ⟨_, rfl⟩
            rw [← hb'] at hx1
            have g1 : (i : Int) + 1 < t.size := by omega
            by_cases h4 : b' = 10
            · have hP := mkHid (hI.out.cr hi (by omega) h3 (by omega))
              clear hb hb' h1 h2
              subst h4
              go_wp2
              go_roundw
              case rel => exact ⟨i + 1, l, c, rfl, rfl, rfl, hP.out⟩
              case measure => simp; omega
            · have e3 : ((b' : Int) = 10) = False := eq_false (by omega)
              have e4 : ((b' : Int) == 10) = false := by rw [beq_eq_false_iff_ne]; omega
              have hP := mkHid (hI.out.ret hi ((LE_iff _ _ _).2 (.inr ⟨by omega, by omega⟩)))
              clear hb hb' h1 h2 h4
              go_wp2
              go_roundw
              case rel => exact ⟨i + 1, l + 1, 1, by go_num, rfl, rfl, hP.out⟩
              case measure => simp; omega
          · have g1 : ¬ ((i : Int) + 1 < t.size) := by omega
            have hP := mkHid (hI.out.ret hi ((LE_iff _ _ _).2 (.inr ⟨by omega, by omega⟩)))
            clear hb h1 h2
            go_wp2
            go_roundw
            case rel => exact ⟨i + 1, l + 1, 1, by go_num, rfl, rfl, hP.out⟩
            case measure => simp; omega
        · have hP := hI.out.other hi (by omega) (by omega)
          have hr : (DB (bt t) off i).1 ≠ 10 ∧ (DB (bt t) off i).1 ≠ 13 := by
            by_cases h5 : b < 128
            · unfold DB
              rw [decodeN_ascii _ _ _ _ _ (by omega)]
              exact ⟨by omega, by omega⟩
            · have : 128 ≤ (DB (bt t) off i).1 := decodeN_high _ _ _ _ _ (by omega)
              omega
          have hw := W_pos (bt t) off i
          have hwf := W_fit (bt t) off i hi
          change PInv (bt t) t.size off (i + (DB (bt t) off i).2) l (c + 1) at hP
          change 1 ≤ (DB (bt t) off i).2 at hw
          change i + (DB (bt t) off i).2 ≤ off at hwf
          obtain ⟨⟨r, k⟩, hrk⟩ : ∃ p, p = DB (bt t) off i := ⟨_, rfl⟩
          rw [← hrk] at hP hr hw hwf hnx
          simp only at hP hr hw hwf hnx
          have HP := mkHid hP
          have e1 : ((r : Int) = 10) = False := eq_false (by omega)
          have e2 : ((r : Int) == 10) = false := by rw [beq_eq_false_iff_ne]; omega
          have e3 : ((r : Int) = 13) = False := eq_false (by omega)
          have e4 : ((r : Int) == 13) = false := by rw [beq_eq_false_iff_ne]; omega
          clear hb h1 h2 hP hr hrk
          go_wp2
          go_roundw
          case rel => exact ⟨i + k, l, c + 1, rfl, by go_num, rfl, HP.out⟩
          case measure => simp; omega
    · have hie : i = off := by have := hI.out.le; omega
      subst hie
      have hnx : ∀ ty, (Instr.next (.pointer (some ⟨w.heap.size, 0, none⟩)) true ty).run Try.prog (w.iter u i) = _ := fun ty => run_next_end w u i ty (by omega)
      obtain ⟨rfl, rfl⟩ := hI.out.fin
      go_wp2
      go_ret2
      exact ⟨rfl, Grown.iter (Grown.refl _) _ _⟩
end Go.Proofs.Qxb6630697a
