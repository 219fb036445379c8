import Derived.Test.Qxb6630552aCall
namespace Go.Proofs.Qxb6630552a
set_option linter.unusedVariables false
set_option linter.unusedSimpArgs false
open Go.RowKit

theorem mkHid {p : Prop} (h : p) : Hid p := h

/-- The report's entry j counts: its address is a known node and a member, and it is the last entry that names it. -/
def validB (ms : List ByteArray) (ns : List ND) (hs : List HD) (j : Nat) : Bool :=
  decide (0 ≤ lastNode ns (hdAt hs j).addr) && decide (0 ≤ indexStr ms (hdAt hs j).addr) && (lastHeard hs (hdAt hs j).addr == (j : Int))

set_option maxRecDepth 20000 in
set_option maxHeartbeats 2000000 in
theorem recordIs_true {N : Nat} {w : World} {bs bm : Nat} {ft : Int} {ma : Option Addr} {mcap : Nat} {ms : List ByteArray} {L : List NE} (h : StI N w bs bm ft ma mcap ms L) (addr : ByteArray) (e : NE) (hf : findNE L addr = some e)
    (am : Option Addr) (cm : Nat) (an : Option Addr) (cn : Nat) (ns : List ND) (ah : Option Addr) (ch : Nat) (hs : List HD) (now : Int) (hsm : SR w am ms) (hsn : NR w an ns) (hsh : HR w ah hs)
    (hn1 : -1152921504606846976 ≤ now) (hn2 : now ≤ 1152921504606846976) (hag : ∀ k, k < hs.length → (hdAt hs k).ago ≤ 1152921504606846976) (hlen : hs.length ≤ 4096)
    (hv : e.hv.isNone = false) (hlook : ∀ j, j < hs.length → validB ms ns hs j = true → lookH e.hl (hdAt hs j).addr = some (vouched now (hdAt hs j).ago)) (hcnt : e.hl.length = countTo (validB ms ns hs) hs.length) :
    Calls Try.prog 19 #[.pointer (some ⟨bs, 0, none⟩), .string addr, .slice am ms.length cm, .slice an ns.length cn, .slice ah hs.length ch, .int .i64 now] w fun e' w' => e' = .returned (.bool true) ∧ Below w.heap.size w w' := by
  have HS := mkHid h
  have HF := mkHid hf
  have HM := mkHid hsm
  have HN := mkHid hsn
  have HH := mkHid hsh
  have HA := mkHid hag
  have HV := mkHid hv
  have HLk := mkHid hlook
  have HCn := mkHid hcnt
  clear h hf hsm hsn hsh hag hlook hcnt
  go_enter Try.func19, Try.ntmps19
  go_wp2_with (go_at_call 27; refine (heardIsNil_some HS.out addr e HF.out).mono ?_; rintro e' w' ⟨rfl, hw⟩; have hw := hw.symm; subst hw)
  go_loopw [13, 23] (fun c i wr => ∃ k : Nat, k ≤ hs.length ∧ i = .int .i64 k ∧ c = .int .i64 (countTo (validB ms ns hs) k : Nat) ∧ Below w.heap.size w wr) (fun _ i _ => hs.length - (intOf i).toNat)
  case atStart => exact ⟨0, Nat.zero_le _, rfl, rfl, Below.refl _ _⟩
  case round =>
    obtain ⟨k, hk, rfl, rfl, hbel⟩ := hrel
    have hle := countTo_le (validB ms ns hs) k
    by_cases hlt : k < hs.length
    · obtain ⟨-, b, off, hq, hcell⟩ := HH.out.below hbel
      have hix := ix24 ah hs.length ch b off (fun h => (hq (by intro e; simp [e] at h)).1)
      obtain ⟨c0, c1⟩ := hcell k hlt
      have hblt := (hq (by intro e; simp [e] at hlt)).2
      clear hq hcell
      have hsu : Hid (countTo (validB ms ns hs) (k + 1) = if validB ms ns hs k then countTo (validB ms ns hs) k + 1 else countTo (validB ms ns hs) k) := rfl
      have hvd : Hid (validB ms ns hs k = (decide (0 ≤ lastNode ns (hdAt hs k).addr) && decide (0 ≤ indexStr ms (hdAt hs k).addr) && (lastHeard hs (hdAt hs k).addr == (k : Int)))) := rfl
      have HLk' : Hid (validB ms ns hs k = true → lookH e.hl (hdAt hs k).addr = some (vouched now (hdAt hs k).ago)) := HLk.out k hlt
      have ha1 := HA.out k hlt
      generalize hx : hdAt hs k = x at *
      clear hx
      by_cases t1 : lastNode ns x.addr < 0
      · go_wp2_with (go_at_call 13; refine (lastNode_any an cn ns x.addr _ (HN.out.below hbel)).mono ?_; rintro e' w' ⟨rfl, rfl⟩)
        go_roundw
        case rel =>
          refine ⟨k + 1, by omega, by go_num, ?_, hbel⟩
          rw [hsu.out, hvd.out, if_neg (by simp; omega)]
        case measure => simp [intOf]; omega
      by_cases t2 : indexStr ms x.addr < 0
      · go_wp2_with (first
          | (go_at_call 13; refine (lastNode_any an cn ns x.addr _ (HN.out.below hbel)).mono ?_; rintro e' w' ⟨rfl, rfl⟩)
          | (go_at_call 14; refine (indexStr_any am cm ms x.addr _ (HM.out.below hbel)).mono ?_; rintro e' w' ⟨rfl, rfl⟩))
        go_roundw
        case rel =>
          refine ⟨k + 1, by omega, by go_num, ?_, hbel⟩
          rw [hsu.out, hvd.out, if_neg (by simp; omega)]
        case measure => simp [intOf]; omega
      by_cases t3 : lastHeard hs x.addr = (k : Int)
      · have t3' : (lastHeard hs x.addr == (k : Int)) = true := by simpa using t3
        have hvk : validB ms ns hs k = true := by rw [hvd.out]; simp [t3]; omega
        have hlk := HLk'.out hvk
        have t3b : (lastHeard hs x.addr != (k : Int)) = false := by simp [t3]
        have H3 := mkHid t3
        clear t3 t3'
        have hcat := heardAt_some (HS.out.below hbel) addr x.addr e HF.out (fun t ht => by rw [hlk] at ht; cases ht; unfold vouched; omega)
        rw [hlk] at hcat
        simp only [Option.getD_some, Option.isSome_some] at hcat
        have HCat := mkHid hcat
        have HVK := mkHid hvk
        clear hlk hcat hvk
        go_wp2_with (first
          | (go_at_call 13; refine (lastNode_any an cn ns x.addr _ (HN.out.below hbel)).mono ?_; rintro e' w' ⟨rfl, rfl⟩)
          | (go_at_call 14; refine (indexStr_any am cm ms x.addr _ (HM.out.below hbel)).mono ?_; rintro e' w' ⟨rfl, rfl⟩)
          | (go_at_call 28; refine (lastHeard_any ah ch hs x.addr _ (HH.out.below hbel)).mono ?_; rintro e' w' ⟨rfl, rfl⟩)
          | (go_at_call 29; refine HCat.out.mono ?_; rintro e' w2 ⟨rfl, hb2⟩; obtain ⟨hc2, hf2⟩ := bcell hb2; have hbl2 := hb2.size)
          | (go_at_call 18; refine (vouched_any now x.ago _ hn1 hn2 ha1).mono ?_; rintro e' w' ⟨rfl, rfl⟩))
        go_roundw
        case rel => exact ⟨k + 1, by omega, by go_num, by rw [hsu.out, if_pos HVK.out]; go_num, below_then hbel hb2⟩
        case measure => simp [intOf]; omega
      · have t3b : (lastHeard hs x.addr != (k : Int)) = true := by simp [t3]
        have H3 := mkHid t3
        clear t3
        go_wp2_with (first
          | (go_at_call 13; refine (lastNode_any an cn ns x.addr _ (HN.out.below hbel)).mono ?_; rintro e' w' ⟨rfl, rfl⟩)
          | (go_at_call 14; refine (indexStr_any am cm ms x.addr _ (HM.out.below hbel)).mono ?_; rintro e' w' ⟨rfl, rfl⟩)
          | (go_at_call 28; refine (lastHeard_any ah ch hs x.addr _ (HH.out.below hbel)).mono ?_; rintro e' w' ⟨rfl, rfl⟩))
        go_roundw
        case rel =>
          refine ⟨k + 1, by omega, by go_num, ?_, hbel⟩
          rw [hsu.out, hvd.out, if_neg (by have := H3.out; simp; omega)]
        case measure => simp [intOf]; omega
    · have hk' : k = hs.length := by omega
      subst hk'
      have hce : ((e.hl.length : Int) == (countTo (validB ms ns hs) hs.length : Nat)) = true := by rw [HCn.out]; simp
      go_wp2_with (go_at_call 30; refine (heardLen_some (HS.out.below hbel) addr e HF.out).mono ?_; rintro e' w' ⟨rfl, rfl⟩)
      go_ret
      exact ⟨rfl, hbel⟩

/-- The old keys' first occurrences. -/
def firstB (old : List ByteArray) (k : Nat) : Bool := indexStr old (strAt old k) == (k : Int)

theorem held_one {w W w1 : World} {b i j : Nat} {u v : Value} (hb : Below W.heap.size W w1) (hW : Below w.heap.size w W) (h1 : w.cell? ⟨b, i, none⟩ = some u) (h2 : w.cell? ⟨b, j, none⟩ = some v) (hlt : b < w.heap.size) :
    Below w.heap.size w w1 ∧ w1.cell? ⟨b, i, none⟩ = some u ∧ w1.cell? ⟨b, j, none⟩ = some v := by
  have h := below_then hW hb
  exact ⟨h, by rw [h.cell (p := ⟨b, i, none⟩) hlt]; exact h1, by rw [h.cell (p := ⟨b, j, none⟩) hlt]; exact h2⟩

theorem held20 {w W w1 : World} {a b i : Nat} {u v z : Value} (hb : Below W.heap.size W w1) (hW : Below w.heap.size w W) (h1 : w.cell? ⟨a, 0, none⟩ = some u) (h2 : w.cell? ⟨a, 5, none⟩ = some v) (h3 : w.cell? ⟨b, i, none⟩ = some z) (hlt : a < w.heap.size) (hlt' : b < w.heap.size) :
    Below w.heap.size w w1 ∧ w1.cell? ⟨a, 0, none⟩ = some u ∧ w1.cell? ⟨a, 5, none⟩ = some v ∧ w1.cell? ⟨b, i, none⟩ = some z := by
  have h := below_then hW hb
  exact ⟨h, by rw [h.cell (p := ⟨a, 0, none⟩) hlt]; exact h1, by rw [h.cell (p := ⟨a, 5, none⟩) hlt]; exact h2, by rw [h.cell (p := ⟨b, i, none⟩) hlt']; exact h3⟩

set_option maxRecDepth 20000 in
set_option maxHeartbeats 2000000 in
theorem oldKept_true {N : Nat} {w : World} {bs bm : Nat} {ft : Int} {ma : Option Addr} {mcap : Nat} {ms : List ByteArray} {L : List NE} (h : StI N w bs bm ft ma mcap ms L) (x : ND) (e : NE) (hf : findNE L x.addr = some e) (hs : SR w x.oa x.old) (hlen : x.old.length ≤ 4096)
    (hv : e.hv.isNone = x.oa.isNone) (hlook : ∀ j, j < x.old.length → firstB x.old j = true → lookH e.hl (strAt x.old j) = some 0) (hcnt : e.hl.length = countTo (firstB x.old) x.old.length) :
    Calls Try.prog 20 #[.pointer (some ⟨bs, 0, none⟩), .agg #[.string x.addr, .int .i64 x.seen, .int .i64 x.rep, .int .i64 x.reping, .bool x.dis, .slice x.oa x.old.length x.ocap]] w fun e' w' => e' = .returned (.bool true) ∧ Below w.heap.size w w' := by
  have nl := nil22
  have HS := mkHid h
  have HF := mkHid hf
  have HR1 := mkHid hs
  have HLk := mkHid hlook
  have HCn := mkHid hcnt
  clear h hf hs hlook hcnt
  go_enter Try.func20, Try.ntmps20
  go_wp2
  have hb0 := below_alloc w (.cells #[.string x.addr, .int .i64 x.seen, .int .i64 x.rep, .int .i64 x.reping, .bool x.dis, .slice x.oa x.old.length x.ocap] 40)
  have HB0 := mkHid (Deep.blk_alloc_new w (.cells #[.string x.addr, .int .i64 x.seen, .int .i64 x.rep, .int .i64 x.reping, .bool x.dis, .slice x.oa x.old.length x.ocap] 40))
  generalize hW : w.alloc (.cells #[.string x.addr, .int .i64 x.seen, .int .i64 x.rep, .int .i64 x.reping, .bool x.dis, .slice x.oa x.old.length x.ocap] 40) = W at *
  clear hW
  have HS1 := mkHid (HS.out.below hb0)
  have HR2 := mkHid (HR1.out.below hb0)
  have hwlt := lt_of_block HB0.out
  have c0 : W.cell? ⟨w.heap.size, 0, none⟩ = some (.string x.addr) := cell_of_block HB0.out
  have c5 : W.cell? ⟨w.heap.size, 5, none⟩ = some (.slice x.oa x.old.length x.ocap) := cell_of_block HB0.out
  have hxor : (e.hv.isNone == x.oa.isNone) = true := by rw [hv]; simp
  have HV := mkHid hv
  clear hv
  go_region_held3 (fun W' => Below W.heap.size W W' ∧ W'.cell? ⟨w.heap.size, 0, none⟩ = some (.string x.addr) ∧ W'.cell? ⟨w.heap.size, 5, none⟩ = some (.slice x.oa x.old.length x.ocap))
    (first | exact ⟨(Below.refl _ _).drew, c0, c5⟩ | assumption)
    (first
      | (go_at_call 27; refine (heardIsNil_some (HS1.out.below (And.left (by assumption))) x.addr e HF.out).mono ?_; rintro e' w' ⟨rfl, hw⟩; have hw := hw.symm; subst hw))
  go_wp2
  go_loopw [5, 20] (fun c i wr => ∃ k : Nat, k ≤ x.old.length ∧ i = .int .i64 k ∧ c = .int .i64 (countTo (firstB x.old) k : Nat) ∧ Below W.heap.size W wr) (fun _ i _ => x.old.length - (intOf i).toNat)
  case atStart => exact ⟨0, Nat.zero_le _, rfl, rfl, (Below.refl _ _).drew⟩
  case round =>
    obtain ⟨k, hk, rfl, rfl, hbel⟩ := hrel
    have hle := countTo_le (firstB x.old) k
    have hbs := hbel.size
    have e0 : wr.cell? ⟨w.heap.size, 0, none⟩ = some (.string x.addr) := by rw [hbel.cell (p := ⟨w.heap.size, 0, none⟩) hwlt]; exact c0
    have e5 : wr.cell? ⟨w.heap.size, 5, none⟩ = some (.slice x.oa x.old.length x.ocap) := by rw [hbel.cell (p := ⟨w.heap.size, 5, none⟩) hwlt]; exact c5
    have hwlt' : w.heap.size < wr.heap.size := by omega
    clear c0 c5
    by_cases hlt : k < x.old.length
    · obtain ⟨-, b, off, hq, hcell⟩ := HR2.out.below hbel
      have hix := ix22 x.oa x.old.length x.ocap b off (fun h => (hq (by intro e; simp [e] at h)).1)
      have g0 := hcell k hlt
      have hblt := (hq (by intro e; simp [e] at hlt)).2
      clear hq hcell
      have i1 : (0 : Int) ≤ k := by omega
      have i2 : (k : Int) < x.old.length := by omega
      have hsu : Hid (countTo (firstB x.old) (k + 1) = if firstB x.old k then countTo (firstB x.old) k + 1 else countTo (firstB x.old) k) := rfl
      have hvd : Hid (firstB x.old k = (indexStr x.old (strAt x.old k) == (k : Int))) := rfl
      have HLk' : Hid (firstB x.old k = true → lookH e.hl (strAt x.old k) = some 0) := HLk.out k hlt
      go_wp2
      go_region_held3 (fun W' => Below wr.heap.size wr W' ∧ W'.cell? ⟨w.heap.size, 5, none⟩ = some (.slice x.oa x.old.length x.ocap) ∧ W'.cell? ⟨b, off + k, none⟩ = some (.string (strAt x.old k)))
        (first | exact ⟨(Below.refl _ _).drew, e5, g0⟩ | assumption)
        (first
          | (go_at_call 14; refine (indexStr_any x.oa x.ocap x.old (strAt x.old k) _ (HR2.out.below (below_then hbel (And.left (by assumption))))).mono ?_; rintro e' w' ⟨rfl, hw⟩; have hw := hw.symm; subst hw))
      by_cases t1 : indexStr x.old (strAt x.old k) = (k : Int)
      · have t1b : (indexStr x.old (strAt x.old k) != (k : Int)) = false := by simp [t1]
        have hvk : firstB x.old k = true := by rw [hvd.out]; simp [t1]
        have hlk := HLk'.out hvk
        have hcat := fun (W' : World) (hW' : Below wr.heap.size wr W') => heardAt_some (HS1.out.below (below_then hbel hW')) x.addr (strAt x.old k) e HF.out (fun t ht => by rw [hlk] at ht; cases ht; omega)
        rw [hlk] at hcat
        simp only [Option.getD_some, Option.isSome_some] at hcat
        have HCat := mkHid hcat
        have HVK := mkHid hvk
        clear hlk hcat hvk t1
        go_wp2
        go_region_held3 (fun W' => Below wr.heap.size wr W' ∧ W'.cell? ⟨w.heap.size, 0, none⟩ = some (.string x.addr) ∧ W'.cell? ⟨w.heap.size, 5, none⟩ = some (.slice x.oa x.old.length x.ocap) ∧ W'.cell? ⟨b, off + k, none⟩ = some (.string (strAt x.old k)))
          (first | exact ⟨(Below.refl _ _).drew.drew, e0, e5, g0⟩ | exact held20 hb2 (And.left (by assumption)) e0 e5 g0 hwlt' hblt)
          (first
            | (go_at_call 29; refine (HCat.out _ (And.left (by assumption))).mono ?_; rintro e' w2 ⟨rfl, hb2⟩))
        have hW2 : Below wr.heap.size wr w2 := And.left (by assumption)
        go_wp2
        go_roundw
        case rel => exact ⟨k + 1, by omega, by go_num, by rw [hsu.out, if_pos HVK.out]; go_num, below_then hbel hW2⟩
        case measure => simp [intOf]; omega
      · have t1b : (indexStr x.old (strAt x.old k) != (k : Int)) = true := by simp [t1]
        have H1 := mkHid t1
        clear t1
        go_wp2
        go_roundw
        case rel =>
          refine ⟨k + 1, by omega, by go_num, ?_, hbel.drew⟩
          rw [hsu.out, hvd.out, if_neg (by simp; exact H1.out)]
        case measure => simp [intOf]; omega
    · have hk' : k = x.old.length := by omega
      subst hk'
      have hce : ((e.hl.length : Int) == (countTo (firstB x.old) x.old.length : Nat)) = true := by rw [HCn.out]; simp
      go_wp2_with (go_at_call 30; refine (heardLen_some (HS1.out.below hbel) x.addr e HF.out).mono ?_; rintro e' w' ⟨rfl, rfl⟩)
      go_ret
      exact ⟨rfl, below_then hb0 hbel⟩
end Go.Proofs.Qxb6630552a
