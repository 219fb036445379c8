import Derived.Test.Qxb6630659aLast
import Derived.Deep.OwnRows
/- THE WALK of zzBuild (7) and ZZnewTickSet (11). -/
namespace Go.Proofs.Qxb6630659a
set_option linter.unusedVariables false
set_option linter.unusedSimpArgs false
open Go.RowKit
def zero64 : Array Value := Array.replicate 64 (.int .u64 0)
theorem alloc35 (W : World) : (Instr.alloc 35 true (.tuple #[])).run Try.prog W = .ok (.pointer (some ⟨W.heap.size, 0, none⟩)) (W.alloc (.cells zero64 35)) := by
  rfl
theorem ix22 (x : Addr) (n cap k : Nat) (hk : k < n) : ∀ W, (Instr.indexAt 22 (.slice (some x) n cap) (.int .i64 (k : Int))).run Try.prog W = .ok (.pointer (some (x.add k))) W := by
  intro W
  have h2 : (0 : Int) ≤ k := by omega
  have h3 : (k : Int) < n := by omega
  go_simp
theorem ix35 (g k : Nat) (hk : k < 64) : ∀ W, (Instr.indexAt 35 (.pointer (some ⟨g, 0, none⟩)) (.int .i64 (k : Int))).run Try.prog W = .ok (.pointer (some ⟨g, k, none⟩)) W := by
  intro W
  have h2 : (0 : Int) ≤ k := by omega
  have h3 : (k : Int) < 64 := by omega
  go_simp
theorem make31 (W : World) : (Instr.makeSlice 31 (.int .i64 434) (.int .i64 434)).run Try.prog W = .ok (.slice (some ⟨W.heap.size, 0, none⟩) 434 434) (W.alloc (.cells (madeCells #[.pointer none] 434) 33)) :=
  run_make_row' 31 33 (.pointer none) 8 Try.underlying31 (by kernel_rfl) rfl .i64 .i64 434 (by decide) (by decide) W
theorem make32 (W : World) : (Instr.makeSlice 32 (.int .i64 7) (.int .i64 7)).run Try.prog W = .ok (.slice (some ⟨W.heap.size, 0, none⟩) 7 7) (W.alloc (.cells (madeCells #[.int .u64 0] 7) 34)) :=
  run_make_row' 32 34 (.int .u64 0) 8 Try.underlying32 (by kernel_rfl) rfl .i64 .i64 7 (by decide) (by decide) W
theorem new_any (a a' : Option Addr) (n c n' c' : Nat) (w : World) : Calls Try.prog 11 #[.slice a n c, .slice a' n' c'] w fun e w' => e = .returned (.pointer (some ⟨w.heap.size, 0, none⟩)) ∧ w' = w.alloc (.cells #[.slice a n c, .slice a' n' c'] 38) := by
  go_enter Try.func11, Try.ntmps11
  go_wp2
  go_ret
  first | done | exact ⟨rfl, rfl⟩
def Upd (f : Nat → Bool) (r : Nat) : Nat → Bool := fun j => f j || j == r
def wi (f : Nat → Bool) : Int := ((word f : Nat) : Int)
theorem or_bit (f : Nat → Bool) (r : Nat) (hr : r < 64) : ∀ W, (binOp .or 34 (wv f) (.int .u64 (IntKind.u64.wrap (2 ^ r)))).run Try.prog W = .ok (.int .u64 (wi (Upd f r))) W := by
  intro W
  rw [u64wrap_pow r hr]
  have hx := bits_or_u64_nat (word f) (2 ^ r) (word_lt f) (pow_lt64 r hr)
  rw [show word f ||| 2 ^ r = word (Upd f r) from (word_or f r hr)] at hx
  unfold wv wi
  rw [← hx]
  go_simp
/-- The rows of a TickSet that is being built. -/
structure BG (w : World) (N bb hb : Nat) (G : Nat → Option Nat) (P Q : Nat → Bool) : Prop where
  rowB : w.rowIs bb 33 434 (fun b => .pointer ((G b).map fun g => ⟨g, 0, none⟩))
  rowH : w.rowIs hb 34 7 (fun i => wv fun j => Q (i * 64 + j))
  rowG : ∀ b g, G b = some g → hb < g ∧ w.rowIs g 35 64 (fun i => wv fun j => P (b * 4096 + (i * 64 + j)))
  non : ∀ b, G b = none → Q b = false
  inj : ∀ b b' g, G b = some g → G b' = some g → b = b'
  bh : bb < hb
  nb : N ≤ bb
theorem wv_false : wv (fun _ => false) = .int .u64 0 := by
  have := (word_zero (fun _ => false)).2 (fun _ _ => rfl)
  unfold wv; rw [this]; rfl
theorem zero64_row (w : World) (P : Nat → Bool) (b : Nat) (h : ∀ i, i < 4096 → P (b * 4096 + i) = false) : (w.alloc (.cells zero64 35)).rowIs w.heap.size 35 64 (fun i => wv fun j => P (b * 4096 + (i * 64 + j))) := by
  refine World.rowIs_alloc w zero64 35 _ (fun i hi => ?_)
  have hi' : i < 64 := by simpa [zero64] using hi
  rw [wv_ext _ (fun _ => false) (fun j hj => h (i * 64 + j) (by omega)), wv_false]
  simp [zero64, hi']
def setG (G : Nat → Option Nat) (b g : Nat) : Nat → Option Nat := fun x => if x = b then some g else G x
theorem BG.grow {w : World} {N bb hb : Nat} {G : Nat → Option Nat} {P Q : Nat → Bool} (h : BG w N bb hb G P Q) (hq : AnyIn P Q) (b : Nat) (hb0 : b < 434) (hn : G b = none) :
    BG ((w.alloc (.cells zero64 35)).setCell ⟨bb, b, none⟩ (.pointer (some ⟨w.heap.size, 0, none⟩))) N bb hb (setG G b w.heap.size) P Q := by
  have hlt : ∀ b g, G b = some g → g < w.heap.size := fun b g e => (h.rowG b g e).2.lt
  refine ⟨?_, ?_, ?_, ?_, ?_, h.bh, h.nb⟩
  · refine ((h.rowB.alloc _).set b _).congr (fun i hi => ?_)
    unfold setG
    by_cases e : i = b
    · simp [e]
    · simp [e]
  · exact (h.rowH.alloc _).setOther (by have := h.bh; show hb ≠ bb; omega) _
  · intro b' g e
    unfold setG at e
    by_cases e1 : b' = b
    · subst e1
      rw [if_pos rfl] at e
      cases e
      exact ⟨h.rowH.lt, (zero64_row w P b' ((hq b').1 (h.non b' hn))).setOther (by have := h.rowB.lt; show w.heap.size ≠ bb; omega) _⟩
    · rw [if_neg e1] at e
      obtain ⟨k1, k2⟩ := h.rowG b' g e
      exact ⟨k1, (k2.alloc _).setOther (by have := h.bh; show g ≠ bb; omega) _⟩
  · intro b' e
    unfold setG at e
    by_cases e1 : b' = b
    · rw [if_pos e1] at e; cases e
    · rw [if_neg e1] at e; exact h.non b' e
  · intro b1 b2 g e1 e2
    unfold setG at e1 e2
    by_cases k1 : b1 = b
    · by_cases k2 : b2 = b
      · omega
      · rw [if_pos k1] at e1; rw [if_neg k2] at e2; cases e1; have := hlt _ _ e2; omega
    · by_cases k2 : b2 = b
      · rw [if_neg k1] at e1; rw [if_pos k2] at e2; cases e2; have := hlt _ _ e1; omega
      · rw [if_neg k1] at e1; rw [if_neg k2] at e2; exact h.inj _ _ _ e1 e2
theorem BG.put {w : World} {N bb hb : Nat} {G : Nat → Option Nat} {P Q : Nat → Bool} (h : BG w N bb hb G P Q) (hq : AnyIn P Q) (o g : Nat) (hg : G (o / 4096) = some g) (v v' : Value)
    (hv : v = wv (Upd (fun j => P (o / 4096 * 4096 + (o % 4096 / 64 * 64 + j))) (o % 64))) (hv' : v' = wv (Upd (fun j => Q (o / 4096 / 64 * 64 + j)) (o / 4096 % 64))) :
    BG ((w.setCell ⟨g, o % 4096 / 64, none⟩ v).setCell ⟨hb, o / 4096 / 64, none⟩ v') N bb hb G (Upd P o) (Upd Q (o / 4096)) := by
  have hgb := (h.rowG _ _ hg).1
  have hbh := h.bh
  refine ⟨?_, ?_, ?_, ?_, h.inj, h.bh, h.nb⟩
  · exact (h.rowB.setOther (by show bb ≠ g; omega) _).setOther (by show bb ≠ hb; omega) _
  · refine ((h.rowH.setOther (by show hb ≠ g; omega) _).set _ _).congr (fun i hi => ?_)
    by_cases e : i = o / 4096 / 64
    · rw [if_pos e, hv', e]
      refine wv_ext _ _ (fun j hj => ?_)
      unfold Upd
      congr 1
      rw [Bool.eq_iff_iff, beq_iff_eq, beq_iff_eq]; omega
    · rw [if_neg e]
      refine wv_ext _ _ (fun j hj => ?_)
      unfold Upd
      rw [show (i * 64 + j == o / 4096) = false by rw [beq_eq_false_iff_ne]; omega, Bool.or_false]
  · intro b g' e
    obtain ⟨k1, k2⟩ := h.rowG b g' e
    refine ⟨k1, ?_⟩
    by_cases eb : b = o / 4096
    · subst eb
      rw [hg] at e; cases e
      refine ((k2.set _ _).setOther (by show g ≠ hb; omega) _).congr (fun i hi => ?_)
      by_cases ei : i = o % 4096 / 64
      · rw [if_pos ei, hv, ei]
        refine wv_ext _ _ (fun j hj => ?_)
        unfold Upd
        congr 1
        rw [Bool.eq_iff_iff, beq_iff_eq, beq_iff_eq]; omega
      · rw [if_neg ei]
        refine wv_ext _ _ (fun j hj => ?_)
        unfold Upd
        rw [show (o / 4096 * 4096 + (i * 64 + j) == o) = false by rw [beq_eq_false_iff_ne]; omega, Bool.or_false]
    · refine ((k2.setOther (fun e2 => ?_) _).setOther (by show g' ≠ hb; omega) _).congr (fun i hi => wv_ext _ _ (fun j hj => ?_))
      · have e3 : g' = g := e2
        subst e3
        exact eb (h.inj _ _ _ e hg)
      · unfold Upd
        rw [show (b * 4096 + (i * 64 + j) == o) = false by rw [beq_eq_false_iff_ne]; omega, Bool.or_false]
  · intro b e
    unfold Upd
    rw [h.non b e, show (b == o / 4096) = false by rw [beq_eq_false_iff_ne]; intro e2; rw [e2, hg] at e; cases e]
    rfl
theorem AnyIn.put {P Q : Nat → Bool} (h : AnyIn P Q) (o : Nat) : AnyIn (Upd P o) (Upd Q (o / 4096)) := by
  intro b
  unfold Upd
  by_cases e : b = o / 4096
  · subst e
    simp only [BEq.rfl, Bool.or_true, Bool.true_eq_false, false_iff]
    intro k
    have := k (o % 4096) (by omega)
    rw [show o / 4096 * 4096 + o % 4096 = o by omega] at this
    simp at this
  · rw [show (b == o / 4096) = false by rw [beq_eq_false_iff_ne]; exact e, Bool.or_false, h b]
    refine forall_congr' fun i => forall_congr' fun hi => ?_
    rw [show (b * 4096 + i == o) = false by rw [beq_eq_false_iff_ne]; omega, Bool.or_false]
theorem BG.start (w : World) : BG ((w.alloc (.cells (madeCells #[.pointer none] 434) 33)).alloc (.cells (madeCells #[.int .u64 0] 7) 34)) w.heap.size w.heap.size (w.heap.size + 1) (fun _ => none) (fun _ => false) (fun _ => false) := by
  refine ⟨(World.rowIs_made w _ _ _).alloc _, ?_, (fun b g e => by cases e), (fun _ _ => rfl), (fun _ _ _ e _ => by cases e), by omega, by omega⟩
  have := World.rowIs_made (w.alloc (.cells (madeCells #[.pointer none] 434) 33)) (.int .u64 0) 7 34
  rw [show (w.alloc (.cells (madeCells #[.pointer none] 434) 33)).heap.size = w.heap.size + 1 by simp] at this
  exact this.congr (fun i _ => wv_false.symm)
theorem BG.toBS {w : World} {N bb hb : Nat} {G : Nat → Option Nat} {P Q : Nat → Bool} (h : BG w N bb hb G P Q) : BS w bb hb P Q := by
  refine ⟨fun b hb0 => ?_, fun i hi => h.rowH.cell hi⟩
  cases e : G b with
  | none => exact .inl ⟨by have := h.rowB.cell hb0; simpa [e] using this, h.non b e⟩
  | some g => exact .inr ⟨g, by have := h.rowB.cell hb0; simpa [e] using this, fun i hi => (h.rowG b g e).2.cell hi⟩
theorem eq33 (p : Option Addr) : ∀ W, (binOp .eql 33 (.pointer p) (.pointer none)).run Try.prog W = .ok (.bool p.isNone) W := by
  intro W
  cases p <;> go_simp
theorem eq33g (p : Option Addr) : ∀ (x y : Operand) (W : World), (eqGuard .eql 33 x y (.pointer p) (.pointer none)).run Try.prog W = .ok () W := by
  intro x y W
  cases p <;> go_simp
/-- Is the offset x among the first k ticks? -/
def Mem (zs : List Int) (k x : Nat) : Bool := (zs.take k).contains ((x : Int) - 887272)
theorem Mem_zero (zs : List Int) : Mem zs 0 = fun _ => false := by funext x; simp [Mem]
theorem Mem_succ (zs : List Int) (k o : Nat) (hk : k < zs.length) (ho : zs.getD k 0 = (o : Int) - 887272) : Mem zs (k + 1) = Upd (Mem zs k) o := by
  funext x
  unfold Mem Upd
  have e : zs[k]? = some ((o : Int) - 887272) := by
    rw [List.getElem?_eq_getElem hk]
    rw [List.getD_eq_getElem?_getD, List.getElem?_eq_getElem hk] at ho
    simpa using ho
  rw [List.take_add_one, e]
  simp only [Option.toList_some, List.contains_append]
  congr 1
  rw [Bool.eq_iff_iff]
  simp only [List.contains_cons, List.contains_nil, Bool.or_false, beq_iff_eq]
  omega
def BRel (w wr : World) (zs : List Int) (bb hb k : Nat) : Prop := ∃ G Q, BG wr w.heap.size bb hb G (Mem zs k) Q ∧ AnyIn (Mem zs k) Q
theorem anyIn_false : AnyIn (fun _ => false) (fun _ => false) := fun b => ⟨fun _ _ _ => rfl, fun _ => rfl⟩

theorem cell_new (w : World) (c : Array Value) (t : TypeId) (i : Nat) (v : Value) (h : c[i]? = some v) : (w.alloc (.cells c t)).cell? ⟨w.heap.size, i, none⟩ = some v := by
  have := World.rowIs_alloc w c t (fun i => c.getD i undef) (fun i hi => by simp [hi])
  have hi : i < c.size := (Array.getElem?_eq_some_iff.1 h).1
  rw [this.cell hi]
  simp [h]
theorem up_lt (n k : Nat) (h : k < n) : n - (intOf (Value.int IntKind.i64 ((k : Int) + 1))).toNat < n - (intOf (Value.int IntKind.i64 (k : Int))).toNat := by
  show n - ((k : Int) + 1).toNat < n - ((k : Int)).toNat
  omega
/-- What zzBuild answers. -/
def BPost (zs : List Int) (n : Nat) (w : World) (e : Ending) (w' : World) : Prop := ∃ sb Q, e = .returned (.pointer (some ⟨sb, 0, none⟩)) ∧ TSet w' sb (Mem zs n) Q ∧ AnyIn (Mem zs n) Q ∧ Below w.heap.size w w'
theorem bpost_of {zs : List Int} {n : Nat} {w wr : World} {bb hb : Nat} (h : BRel w wr zs bb hb n) (hb0 : Below w.heap.size w wr) :
    BPost zs n w (.returned (.pointer (some ⟨wr.heap.size, 0, none⟩))) (wr.alloc (.cells #[.slice (some ⟨bb, 0, none⟩) 434 434, .slice (some ⟨hb, 0, none⟩) 7 7] 38)) := by
  obtain ⟨G, Q, hG, hQ⟩ := h
  refine ⟨wr.heap.size, Q, rfl, .inr ⟨bb, hb, ?_, ?_, hG.toBS.below ((Below.refl _ _).alloc (Nat.le_refl _) _)⟩, hQ, hb0.alloc hb0.size _⟩
  · exact cell_new _ _ _ _ _ rfl
  · exact cell_new _ _ _ _ _ rfl
theorem build_nil (a : Option Addr) (zs : List Int) (cap : Nat) (w : World) : Calls Try.prog 7 #[.slice a 0 cap] w fun e w' => BPost zs 0 w e w' := by
  go_enter Try.func7, Try.ntmps7
  go_wp2_with (first | (go_at_call 11; refine (new_any none none 0 0 0 0 _).mono ?_; rintro e w' ⟨rfl, hw'⟩; subst hw'))
  go_ret
  refine ⟨w.heap.size, fun _ => false, rfl, .inl ⟨?_, fun j => by rw [Mem_zero]⟩, by rw [Mem_zero]; exact anyIn_false, (Below.refl _ _).alloc (Nat.le_refl _) _⟩
  exact cell_new _ _ _ _ _ rfl

set_option maxRecDepth 20000 in
theorem build_any (x : Addr) (n cap : Nat) (zs : List Int) (w : World) (hn0 : 0 < n) (hn : n ≤ 131072) (hz : zs.length = cap) (hnc : n ≤ cap) (hcell : ∀ i, i < zs.length → w.cell? (x.add i) = some (.int .i64 (zs.getD i 0)))
    (hr : ∀ i, i < n → -887272 ≤ zs.getD i 0 ∧ zs.getD i 0 ≤ 887272) :
    Calls Try.prog 7 #[.slice (some x) n cap] w fun e w' => BPost zs n w e w' := by
  have m1 := make31
  have m2 := make32
  have q1 : ((n : Int) == 0) = false := by rw [beq_eq_false_iff_ne]; omega
  have q2 : ((n : Int) = 0) = False := eq_false (by omega)
  have HC := mkHid hcell
  have HR := mkHid hr
  clear hcell hr
  go_enter Try.func7, Try.ntmps7
  go_wp2
  have HB0 := BG.start w
  go_loopw [5] (fun v wr => ∃ k : Nat, k ≤ n ∧ v = .int .i64 k ∧ Hid (BRel w wr zs w.heap.size (w.heap.size + 1) k) ∧ Hid (Below w.heap.size w wr)) (fun v _ => (n - (intOf v).toNat : Nat))
  case atStart => exact ⟨0, Nat.zero_le _, rfl, ⟨_, _, by rw [Mem_zero]; exact HB0, by rw [Mem_zero]; exact anyIn_false⟩, ((Below.refl _ _).alloc (Nat.le_refl _) _).alloc (by simp) _⟩
  case round =>
    obtain ⟨k, hk, rfl, hrel, hbel⟩ := hrel
    clear m1 m2 HB0
    by_cases hkn : k < n
    · have hkz : k < zs.length := by omega
      have kc := cell_below (HC.out k hkz) hbel.out
      have kr := HR.out k hkn
      obtain ⟨o, ho⟩ : ∃ o : Nat, zs.getD k 0 = (o : Int) - 887272 := ⟨(zs.getD k 0 + 887272).toNat, by omega⟩
      have HO := mkHid ho
      rw [ho] at kc kr
      clear ho
      have hol : o ≤ 1774544 := by omega
      have hx := ix22 x n cap k hkn
      obtain ⟨G, Q, hG, hQ⟩ := hrel.out
      have HG := mkHid hG
      have HQ := mkHid hQ
      clear hQ hrel
      have hb1 : o / 4096 < 434 := by omega
      have hxb := ix31i w.heap.size 434 434 (o / 4096) hb1
      have hxi : ((o / 4096 : Nat) : Int) = (o : Int) / 4096 := by omega
      rw [hxi] at hxb
      clear hxi
      obtain ⟨p, hp⟩ : ∃ p : Option Addr, p = (G (o / 4096)).map fun g => ⟨g, 0, none⟩ := ⟨_, rfl⟩
      have kb := hG.rowB.cell hb1
      simp only [← hp] at kb
      have e33 := eq33 p
      have e33g := eq33g p
      have HP := mkHid hp
      clear hp hG
      go_upto_if 33 with (fail)
      go_cut [] (fun wc => ∃ G' g, G' (o / 4096) = some g ∧ BG wc w.heap.size w.heap.size (w.heap.size + 1) G' (Mem zs k) Q ∧ Below w.heap.size w wc)
      case first =>
        cases hn : p.isNone
        · go_wp2
          go_meet
          case rel =>
            have h1 := HP.out
            cases hg : G (o / 4096) with
            | none => rw [hg] at h1; rw [h1] at hn; cases hn
            | some g => exact ⟨G, g, hg, HG.out, hbel.out⟩
        · have af : ∀ c, (wr.alloc (.cells c 35)).frozen? ⟨w.heap.size, o / 4096, none⟩ = false := fun c => (HG.out.rowB.alloc _).frozen _
          have ac : ∀ c, (wr.alloc (.cells c 35)).cell? ⟨w.heap.size, o / 4096, none⟩ = some (.pointer p) := fun c => by
            have := (HG.out.rowB.alloc (.cells c 35)).cell hb1
            simp only [← HP.out] at this
            exact this
          go_wp2
          go_meet
          case rel =>
            have h1 := HP.out
            cases hg : G (o / 4096) with
            | some g => rw [hg] at h1; rw [h1] at hn; cases hn
            | none => exact ⟨_, wr.heap.size, if_pos rfl, HG.out.grow HQ.out (o / 4096) hb1 hg, (hbel.out.alloc hbel.out.size _).setCell (Nat.le_refl _) _⟩
      case rest =>
        obtain ⟨G', g, hg, hG, hbel'⟩ := hcut
        have HG' := mkHid hG
        have HB' := mkHid hbel'
        have Hg := mkHid hg
        clear kc kb e33 e33g hx hbel HG HP hbel'
        have kb := hG.rowB.cell hb1
        simp only [hg, Option.map_some] at kb
        have hxg := ix35 g (o % 4096 / 64) (by omega)
        have hxi : ((o % 4096 / 64 : Nat) : Int) = (o : Int) % 4096 / 64 := by omega
        rw [hxi] at hxg
        clear hxi
        have cg := (hG.rowG _ _ hg).2.cell (i := o % 4096 / 64) (by omega)
        have fg := (hG.rowG _ _ hg).2.frozen (o % 4096 / 64)
        have orr := or_bit (fun j => Mem zs k (o / 4096 * 4096 + (o % 4096 / 64 * 64 + j))) (o % 64) (by omega)
        have hgh := (hG.rowG _ _ hg).1
        have ch : ∀ v, (wc.setCell ⟨g, o % 4096 / 64, none⟩ v).cell? ⟨w.heap.size + 1, o / 4096 / 64, none⟩ = some (wv fun j => Q (o / 4096 / 64 * 64 + j)) := fun v =>
          (hG.rowH.setOther (by show w.heap.size + 1 ≠ g; omega) v).cell (i := o / 4096 / 64) (by omega)
        have fh : ∀ v, (wc.setCell ⟨g, o % 4096 / 64, none⟩ v).frozen? ⟨w.heap.size + 1, o / 4096 / 64, none⟩ = false := fun v =>
          (hG.rowH.setOther (by show w.heap.size + 1 ≠ g; omega) v).frozen _
        have orh := or_bit (fun j => Q (o / 4096 / 64 * 64 + j)) (o / 4096 % 64) (by omega)
        have hxh := ix32i (w.heap.size + 1) 7 7 (o / 4096 / 64) (by omega)
        have hxi : ((o / 4096 / 64 : Nat) : Int) = (o : Int) / 4096 / 64 := by omega
        rw [hxi] at hxh
        clear hxi
        clear hG hg
        go_upto_region 14 with (fail)
        go_region
        go_wp2
        go_roundw
        case rel =>
          refine ⟨k + 1, hkn, by go_num, ⟨G', Upd Q (o / 4096), ?_, ?_⟩, ?_⟩
          · rw [Mem_succ zs k o hkz HO.out]
            have := HG'.out.put HQ.out o g Hg.out _ _ rfl rfl
            exact ⟨this.rowB.drew, this.rowH.drew, fun b g e => ⟨(this.rowG b g e).1, (this.rowG b g e).2.drew⟩, this.non, this.inj, this.bh, this.nb⟩
          · rw [Mem_succ zs k o hkz HO.out]
            exact HQ.out.put o
          · exact ((HB'.out.setCell (by show w.heap.size ≤ g; omega) _).setCell (by show w.heap.size ≤ w.heap.size + 1; omega) _).drew
        case measure => exact up_lt n k hkn
    · have hke : k = n := by omega
      subst hke
      have ho : ¬ ((k : Int) < k) := by omega
      go_wp2_with (first | (go_at_call 11; refine (new_any _ _ _ _ _ _ _).mono ?_; rintro e w' ⟨rfl, hw'⟩; subst hw'))
      go_ret
      exact bpost_of hrel.out hbel.out
end Go.Proofs.Qxb6630659a
