import Derived.Test.Qxb6630623aSmall
import Derived.Deep.OwnRows
/- THE WALKS of zzSlack (13) and of zzModel (9). -/
namespace Go.Proofs.Qxb6630623a
set_option linter.unusedVariables false
set_option linter.unusedSimpArgs false
open Go.RowKit

theorem make30 (n : Nat) (hn : n ≤ 65536) (w : World) : (Instr.makeSlice 30 (.int .i64 (n : Int)) (.int .i64 ((n : Int) + 1))).run Try.prog w =
    .ok (.slice (some ⟨w.heap.size, 0, none⟩) n (n + 1)) (w.alloc (.cells (madeCells #[.int .i64 0] (n + 1)) 2)) := by
  obtain ⟨i, hi, hz, hs, hb⟩ := info_parts Try.info2
  have := run_make (P := Try.prog) w 30 2 i (.int .i64 0) Try.underlying30 hi hz .i64 .i64 (n : Int) ((n : Int) + 1) (by omega) (by omega) (by rw [hb]; omega) (by omega)
  rw [this, hs]
  have e1 : ((n : Int) + 1).toNat = n + 1 := by omega
  rw [e1]; simp [Value.cells]

theorem IL_alloc (w : World) (C : Array Value) (zs : List Int) (hC : C.size = zs.length + 1) (hmax : zs.length ≤ 65536) (h : ∀ j, j < zs.length → C[j]? = some (.int .i64 (intAt zs j))) :
    IL (w.alloc (.cells C 2)) w.heap.size (.slice (some ⟨w.heap.size, 0, none⟩) zs.length (zs.length + 1)) zs := by
  refine ⟨by simp, .inr ⟨w.heap.size, zs.length + 1, C, rfl, Nat.le_refl _, heap_alloc_new w _, by omega, by unfold maxLen; omega, by omega, ?_⟩⟩
  apply List.ext_getElem?
  intro j
  rw [List.getElem?_take, List.getElem?_map]
  by_cases hj : j < zs.length
  · rw [if_pos (by omega)]
    have := h j hj
    simp only [Array.getElem?_toList, this]
    simp [intAt, hj]
  · rw [if_neg (by omega), List.getElem?_eq_none (by omega)]; rfl

/-- What zzSlack hands back. -/
def SlackPost (w : World) (zs : List Int) (e : Ending) (w' : World) : Prop := ∃ v, e = .returned v ∧ IL w' w.heap.size v zs
theorem slack_any (B : Nat) (v : Value) (zs : List Int) (w : World) (h : IL w B v zs) (hmax : zs.length ≤ 65536) :
    Calls Try.prog 13 #[v] w fun e w' => SlackPost w zs e w' ∧ Below w.heap.size w w' := by
  obtain ⟨a, cap, g, rfl, ha, hcell, hl, -, -⟩ := h.look
  have hix := ix30 a zs.length cap g ha
  have hmk := make30 zs.length hmax
  clear ha h
  go_enter Try.func13, Try.ntmps13
  go_wp2
  go_loopw [4] (fun i wr => ∃ (k : Nat) (C : Array Value), k ≤ zs.length ∧ i = .int .i64 k ∧ C.size = zs.length + 1 ∧ Hid (∀ j, j < k → C[j]? = some (.int .i64 (intAt zs j))) ∧ wr = w.alloc (.cells C 2)) (fun i _ => zs.length - (intOf i).toNat)
  case atStart => exact ⟨0, _, Nat.zero_le _, rfl, size_madeCells _ _, fun j hj => by omega, rfl⟩
  case round =>
    obtain ⟨k, C, hk, rfl, hC, hno, rfl⟩ := hrel
    by_cases hlt : k < zs.length
    · have hc := hcell k hlt
      have hb := (hl (by omega)).2
      have hCk : k < C.size := by omega
      have hx1 := hix k hlt
      clear hcell hl hmk hix
      have hiy : ∀ W, (Instr.indexAt 30 (.slice (some ⟨w.heap.size, 0, none⟩) zs.length (zs.length + 1)) (.int .i64 k)).run Try.prog W = .ok (.pointer (some ⟨w.heap.size, k, none⟩)) W := ix30 _ _ _ _ (fun _ => rfl) k hlt
      go_wp2
      go_roundw
      case rel =>
        refine ⟨k + 1, _, by omega, by go_num, by simp [hC], fun j hj => ?_, rfl⟩
        rw [Array.getElem?_setIfInBounds]
        by_cases e : j = k
        · rw [if_pos e.symm, if_pos (by omega), e]
        · rw [if_neg (Ne.symm e)]; exact hno.out j (by omega)
      case measure => simp [intOf]; omega
    · have e : k = zs.length := by omega
      clear hmk
      go_wp2
      go_ret
      exact ⟨⟨_, rfl, IL_alloc w C zs hC hmax (fun j hj => hno.out j (by omega))⟩, (Below.refl _ _).alloc (Nat.le_refl _) _⟩

def ModelPost (w : World) (zs : List Int) (e : Ending) (w' : World) : Prop := ∃ v, e = .returned v ∧ IL w' w.heap.size v zs
theorem emp_is (u : ByteArray) : u.toList.isEmpty = emp u := by
  unfold emp sEq
  have : ByteArray.empty.toList = [] := by rw [ByteArray.toList_eq]; rfl
  rw [this]; cases u.toList <;> rfl
theorem last_eq (zs : List Int) (h : zs.length ≠ 0) (e : Int) : lastIs zs e = (intAt zs (zs.length - 1) == e) := by simp [lastIs, h]

theorem model_any (a : Option Addr) (cap : Nat) (rs : List RD) (q u : ByteArray) (w : World) (h : RR w a rs) (hmax : rs.length ≤ 65536) :
    Calls Try.prog 9 #[.slice a rs.length cap, .string q, .string u] w fun e w' => ModelPost w (mdl rs q u rs.length) e w' ∧ Below w.heap.size w w' := by
  obtain ⟨hm, b, off, ha, hcell⟩ := h
  have hix := ix22 a rs.length cap b off (fun h => (ha (by intro e; simp [e] at h)).1)
  have hb0 : rs ≠ [] → b < w.heap.size := fun h => (ha h).2
  clear ha
  obtain ⟨i0, hi, hz0, hz1, hz2⟩ := info_parts Try.info2
  go_enter Try.func9, Try.ntmps9
  go_wp2
  go_loopw [7, 8] (fun o i wr => ∃ (k : Nat), k ≤ rs.length ∧ i = .int .i64 k ∧ IL wr w.heap.size o (mdl rs q u k) ∧ Below w.heap.size w wr) (fun o i wr => rs.length - (intOf i).toNat)
  case atStart => exact ⟨0, Nat.zero_le _, rfl, IL_nil _ _, Below.refl _ _⟩
  case round =>
    obtain ⟨k, hk, rfl, hil, hbel⟩ := hrel
    have hil' := hil
    obtain ⟨oa, oc, og, rfl, hoa, hocell, -, -, -⟩ := hil.look
    by_cases hlt : k < rs.length
    · obtain ⟨hc0, hc1, hc2⟩ := hcell k hlt
      have hbl := hb0 (by intro e; simp [e] at hlt)
      have d0 : wr.cell? ⟨b, off + k * 3, none⟩ = _ := (hbel.cell (by exact hbl)).trans hc0
      have d1 : wr.cell? ⟨b, off + k * 3 + 1, none⟩ = _ := (hbel.cell (by exact hbl)).trans hc1
      have d2 : wr.cell? ⟨b, off + k * 3 + 2, none⟩ = _ := (hbel.cell (by exact hbl)).trans hc2
      have hx1 := hix k hlt
      have hml := mdl_le rs q u k
      have hsz := hbel.size
      clear hcell hc0 hc1 hc2
      cases hp : sEq (rdAt rs k).pat q
      · -- another patient
        have hp' : ((rdAt rs k).pat.toList == q.toList) = false := hp
        have hstep : mdl rs q u (k + 1) = mdl rs q u k := by simp [mdl, hp]
        have HS := mkHid hstep
        clear hstep
        go_wp2
        go_roundw
        case rel => exact ⟨k + 1, by omega, by go_num, by rw [HS.out]; exact hil', hbel⟩
        case measure => simp [intOf]; omega
      · have hp' : ((rdAt rs k).pat.toList == q.toList) = true := hp
        cases hu : (emp u || sEq (rdAt rs k).ref u)
        · -- another reference
          have hstep : mdl rs q u (k + 1) = mdl rs q u k := by simp [mdl, hp, hu]
          have HS := mkHid hstep
          simp only [Bool.or_eq_false_iff] at hu
          have hu1 : u.toList.isEmpty = false := (emp_is u).trans hu.1
          have hu2 : ((rdAt rs k).ref.toList == u.toList) = false := hu.2
          clear hstep hu
          go_wp2
          go_roundw
          case rel => exact ⟨k + 1, by omega, by go_num, by rw [HS.out]; exact hil', hbel⟩
          case measure => simp [intOf]; omega
        · have hstep : mdl rs q u (k + 1) = snocNew (mdl rs q u k) (rdAt rs k).ev := by simp [mdl, hp, hu]
          have HS := mkHid hstep
          have HU : Hid (u.toList.isEmpty = true ∨ (u.toList.isEmpty = false ∧ ((rdAt rs k).ref.toList == u.toList) = true)) := by
            rw [emp_is]
            rcases Bool.or_eq_true_iff.1 hu with q | q
            · exact .inl q
            · cases he : emp u
              · exact .inr ⟨rfl, q⟩
              · exact .inl rfl
          have hx3 : ∀ W, 0 < (mdl rs q u k).length → (Instr.indexAt 30 (.slice oa (mdl rs q u k).length oc) (.int .i64 (((mdl rs q u k).length : Int) - 1))).run Try.prog W = .ok (.pointer (some ⟨og, (mdl rs q u k).length - 1, none⟩)) W := by
            intro W hpos
            have e : (((mdl rs q u k).length : Int) - 1) = (((mdl rs q u k).length - 1 : Nat) : Int) := by omega
            rw [e]; exact ix30 oa _ oc og hoa _ (by omega) W
          have hcl : 0 < (mdl rs q u k).length → wr.cell? ⟨og, (mdl rs q u k).length - 1, none⟩ = _ := fun hpos => hocell ((mdl rs q u k).length - 1) (by omega)
          clear hstep hu hocell hoa hix
          generalize hM : mdl rs q u k = zs at *
          have HM := mkHid hM
          clear hM
          by_cases hpos : 0 < zs.length
          · have hx3' := fun W => hx3 W hpos
            have hcl' := hcl hpos
            clear hx3 hcl
            cases hle : (intAt zs (zs.length - 1) == (rdAt rs k).ev)
            · have hst : snocNew zs (rdAt rs k).ev = zs ++ [(rdAt rs k).ev] := by
                rw [snocNew, last_eq zs (by omega), hle]; rfl
              have HS2 := mkHid hst
              clear hst
              rcases HU.out with u1 | ⟨u1, u2⟩
              all_goals
                go_wp2_with (first | (at_builtin; refine wpList_append_own_at _ rfl _ _ 30 rfl w.heap.size 2 i0 (.int .i64 0) 1 8 Try.underlying30 hi hz0 hz1 hz2 rfl (by decide) _ _ _ rfl (World.ownsRow.alloc hil' _) ⟨wr.heap.size, 0, none⟩ 1 1 [.int .i64 (rdAt rs k).ev] rfl rfl (cell_one_new _ _ _) (ints_oneCell .i64 [(rdAt rs k).ev]) (by unfold maxLen; omega) (by omega) (by simp; omega) ?_; intro v' w1 hown' hgrow hnil hloc))
                go_roundw
                case rel => exact ⟨k + 1, by omega, by go_num, by rw [HS.out, HS2.out]; exact IL.snoc hown', (hbel.alloc hsz _).grown hgrow (by simp; omega) (fun j hj => (World.ownsRow.lt hil' j hj).1)⟩
                case measure => simp [intOf]; omega
            · have hst : snocNew zs (rdAt rs k).ev = zs := by
                rw [snocNew, last_eq zs (by omega), hle]; rfl
              have HS2 := mkHid hst
              clear hst
              rcases HU.out with u1 | ⟨u1, u2⟩
              all_goals
                go_wp2
                go_roundw
                case rel => exact ⟨k + 1, by omega, by go_num, by rw [HS.out, HS2.out]; exact hil', hbel⟩
                case measure => simp [intOf]; omega
          · have e0 : zs = [] := List.eq_nil_of_length_eq_zero (by omega)
            have hst : snocNew zs (rdAt rs k).ev = zs ++ [(rdAt rs k).ev] := by
              rw [e0]; rfl
            have HS2 := mkHid hst
            clear hst hx3 hcl e0
            rcases HU.out with u1 | ⟨u1, u2⟩
            all_goals
              go_wp2_with (first | (at_builtin; refine wpList_append_own_at _ rfl _ _ 30 rfl w.heap.size 2 i0 (.int .i64 0) 1 8 Try.underlying30 hi hz0 hz1 hz2 rfl (by decide) _ _ _ rfl (World.ownsRow.alloc hil' _) ⟨wr.heap.size, 0, none⟩ 1 1 [.int .i64 (rdAt rs k).ev] rfl rfl (cell_one_new _ _ _) (ints_oneCell .i64 [(rdAt rs k).ev]) (by unfold maxLen; omega) (by omega) (by simp; omega) ?_; intro v' w1 hown' hgrow hnil hloc))
              go_roundw
              case rel => exact ⟨k + 1, by omega, by go_num, by rw [HS.out, HS2.out]; exact IL.snoc hown', (hbel.alloc hsz _).grown hgrow (by simp; omega) (fun j hj => (World.ownsRow.lt hil' j hj).1)⟩
              case measure => simp [intOf]; omega
    · have e : k = rs.length := by omega
      clear hocell
      go_wp2
      go_ret
      exact ⟨⟨_, rfl, by subst e; exact hil'⟩, hbel⟩
end Go.Proofs.Qxb6630623a
