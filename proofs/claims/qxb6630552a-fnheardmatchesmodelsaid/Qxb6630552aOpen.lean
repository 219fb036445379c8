import Derived.Test.Qxb6630552aMain
import Derived.Deep.Strs
import Derived.ProofKit
/- THE ARGUMENTS, READ: slices of strings, of ZNode, of ZHeard. -/
namespace Go.Proofs.Qxb6630552a
set_option linter.unusedVariables false
set_option linter.unusedSimpArgs false
open Go.RowKit Go.Deep

theorem strAt_map (f : Nat → ByteArray) (n k : Nat) (h : k < n) : strAt ((List.range n).map f) k = f k := by simp [strAt, h]
theorem ndAt_map (f : Nat → ND) (n k : Nat) (h : k < n) : ndAt ((List.range n).map f) k = f k := by simp [ndAt, h]
theorem hdAt_map (f : Nat → HD) (n k : Nat) (h : k < n) : hdAt ((List.range n).map f) k = f k := by simp [hdAt, h]

/-- A cell that is there lies at a plain address, in a block that is there. -/
theorem plain_addr {w : World} {a : Addr} {v : Value} (h : w.cell? a = some v) : a.spot = none ∧ a.block < w.heap.size := by
  unfold World.cell? at h
  cases hx : w.heap[a.block]? with
  | none => rw [hx] at h; cases h
  | some o =>
    rw [hx] at h
    refine ⟨?_, lt_of_block hx⟩
    cases o <;> simp at h
    cases hs : a.spot with
    | none => rfl
    | some s => rw [hs] at h; simp at h

theorem addr_plain {w : World} {a : Addr} {v : Value} (h : w.cell? (a.add 0) = some v) : ∃ b off, a = ⟨b, off, none⟩ ∧ b < w.heap.size := by
  rw [Addr.add_zero'] at h
  obtain ⟨b, off, sp⟩ := a
  obtain ⟨h1, h2⟩ := plain_addr h
  cases h1
  exact ⟨b, off, rfl, h2⟩

theorem len6 {A : Type} {xs : List A} (h : xs.length = 6) : ∃ a b c d e f, xs = [a, b, c, d, e, f] := by
  rcases xs with - | ⟨a, - | ⟨b, - | ⟨c, - | ⟨d, - | ⟨e, - | ⟨f, - | ⟨g, t⟩⟩⟩⟩⟩⟩⟩ <;> simp at h
  exact ⟨a, b, c, d, e, f, rfl⟩
theorem len2 {A : Type} {xs : List A} (h : xs.length = 2) : ∃ a b, xs = [a, b] := by
  rcases xs with - | ⟨a, - | ⟨b, - | ⟨c, t⟩⟩⟩ <;> simp at h
  exact ⟨a, b, rfl⟩

section
variable {H : Type} {enc : TypeId × Value → H} {w : World} {base : Nat} {spare : Nat → Bool} {held : Bool}

theorem open_SR {fuel : Nat} {a : Option Addr} {len cap : Nat} {x : DataW H × List MemPlace} (h : DataW.trod enc Try.prog w base spare held fuel 22 [.slice a len cap] = some x) : ∃ ss, len = List.length ss ∧ SR w a ss := by
  rcases open_strs Try.underlying22 Try.underlying9 (by kernel_rfl) h with ⟨hcs, -⟩ | ⟨a', len', cap', m, Sx, hcs, -, hl, hm, hmm, -, hcell⟩
  · simp only [List.cons.injEq, Value.slice.injEq, and_true] at hcs
    obtain ⟨rfl, rfl, rfl⟩ := hcs
    exact ⟨[], rfl, by simp, 0, 0, fun h => (h rfl).elim, fun k hk => by simp at hk⟩
  · simp only [List.cons.injEq, Value.slice.injEq, and_true] at hcs
    obtain ⟨rfl, rfl, rfl⟩ := hcs
    have hlm : len ≤ m := by rw [hmm]; split <;> omega
    have hmx : len ≤ 9223372036854775807 := by have : cap ≤ 2 ^ 63 - 1 := hm; omega
    rcases Nat.eq_zero_or_pos len with q | q
    · subst q
      exact ⟨[], rfl, by simp, 0, 0, fun h => (h rfl).elim, fun k hk => by simp at hk⟩
    · obtain ⟨b, off, rfl, hlt⟩ := addr_plain (hcell 0 (by omega)).1
      refine ⟨(List.range len).map Sx, by simp, by simpa using hmx, b, off, fun _ => ⟨rfl, hlt⟩, fun k hk => ?_⟩
      have hk' : k < len := by simpa using hk
      have h1 := (hcell k (by omega)).1
      rw [Addr.add_lit] at h1
      rw [strAt_map _ _ _ hk']; exact h1

theorem Try.cells40 : Try.prog.cellsOf 40 = 6 := by kernel_rfl
theorem Try.cells44 : Try.prog.cellsOf 44 = 2 := by kernel_rfl
theorem Try.cells9 : Try.prog.cellsOf 9 = 1 := by kernel_rfl
theorem Try.cells2 : Try.prog.cellsOf 2 = 1 := by kernel_rfl
theorem Try.cells4 : Try.prog.cellsOf 4 = 1 := by kernel_rfl
theorem Try.cells22 : Try.prog.cellsOf 22 = 1 := by kernel_rfl

/-- One ZNode out of its six cells. -/
theorem open_node {n : Nat} {cs : List Value} {y : DataW H × List MemPlace} (h : DataW.trod enc Try.prog w base spare held n 40 cs = some y) :
    ∃ x : ND, cs = [.string x.addr, .int .i64 x.seen, .int .i64 x.rep, .int .i64 x.reping, .bool x.dis, .slice x.oa x.old.length x.ocap] ∧ SR w x.oa x.old := by
  obtain ⟨xs, m, -, -, hlen, hxl, hf⟩ := DataW.trod_struct Try.underlying40 h
  rw [Try.cells40] at hlen
  obtain ⟨y0, y1, y2, y3, y4, y5, rfl⟩ := len6 hxl
  obtain ⟨v0, v1, v2, v3, v4, v5, rfl⟩ := len6 hlen
  · skip
    have g0 := hf 0 _ rfl
    have g1 := hf 1 _ rfl
    have g2 := hf 2 _ rfl
    have g3 := hf 3 _ rfl
    have g4 := hf 4 _ rfl
    have g5 := hf 5 _ rfl
    simp [Try.cells9, Try.cells2, Try.cells4, Try.cells22] at g0 g1 g2 g3 g4 g5
    obtain ⟨s, e0, -, -⟩ := DataW.trod_string Try.underlying9 g0
    obtain ⟨z1, e1, -, -⟩ := DataW.trod_int Try.underlying2 g1
    obtain ⟨z2, e2, -, -⟩ := DataW.trod_int Try.underlying2 g2
    obtain ⟨z3, e3, -, -⟩ := DataW.trod_int Try.underlying2 g3
    obtain ⟨b4, e4, -⟩ := DataW.trod_bool Try.underlying4 g4
    obtain ⟨a5, l5, c5, e5⟩ : ∃ a l c, v5 = .slice a l c := by
      rcases open_slice Try.underlying22 g5 with ⟨q, -⟩ | ⟨a, l, c, _, _, _, _, q, -⟩
      · exact ⟨_, _, _, by simpa using q⟩
      · exact ⟨_, _, _, by simpa using q⟩
    subst e5
    obtain ⟨ss, hl, hs⟩ := open_SR g5
    subst hl
    simp at e0 e1 e2 e3 e4
    subst e0 e1 e2 e3 e4
    exact ⟨{ addr := s, seen := z1, rep := z2, reping := z3, dis := b4, oa := a5, ocap := c5, old := ss }, rfl, hs⟩

theorem open_NR {fuel : Nat} {a : Option Addr} {len cap : Nat} {x : DataW H × List MemPlace} (h : DataW.trod enc Try.prog w base spare held fuel 23 [.slice a len cap] = some x) : ∃ ns, len = List.length ns ∧ NR w a ns := by
  rcases open_slice Try.underlying23 h with ⟨hcs, -⟩ | ⟨a', len', cap', m, n, D, Pl, hcs, -, hl, hm, hmm, -, hcell⟩
  · simp only [List.cons.injEq, Value.slice.injEq, and_true] at hcs
    obtain ⟨rfl, rfl, rfl⟩ := hcs
    exact ⟨[], rfl, by simp, 0, 0, fun h => (h rfl).elim, fun k hk => by simp at hk⟩
  · simp only [List.cons.injEq, Value.slice.injEq, and_true] at hcs
    obtain ⟨rfl, rfl, rfl⟩ := hcs
    have hlm : len ≤ m := by rw [hmm]; split <;> omega
    have hmx : len ≤ 9223372036854775807 := by have : cap ≤ 2 ^ 63 - 1 := hm; omega
    rcases Nat.eq_zero_or_pos len with q | q
    · subst q
      exact ⟨[], rfl, by simp, 0, 0, fun h => (h rfl).elim, fun k hk => by simp at hk⟩
    · rw [Try.cells40] at hcell
      have each : ∀ i, i < m → ∃ x : ND, (∀ j, j < 6 → w.cell? ((a'.add (i * 6)).add j) = [Value.string x.addr, .int .i64 x.seen, .int .i64 x.rep, .int .i64 x.reping, .bool x.dis, .slice x.oa x.old.length x.ocap][j]?) ∧ SR w x.oa x.old := by
        intro i hi
        obtain ⟨cs', h1, h2⟩ := hcell i hi
        obtain ⟨-, -, hc⟩ := World.cells?_some h1
        obtain ⟨x, rfl, hs⟩ := open_node h2
        exact ⟨x, hc, hs⟩
      obtain ⟨X, hX⟩ : ∃ X : Nat → ND, ∀ i, i < m → (∀ j, j < 6 → w.cell? ((a'.add (i * 6)).add j) = [Value.string (X i).addr, .int .i64 (X i).seen, .int .i64 (X i).rep, .int .i64 (X i).reping, .bool (X i).dis, .slice (X i).oa (X i).old.length (X i).ocap][j]?) ∧ SR w (X i).oa (X i).old := by
        refine ⟨fun i => if hi : i < m then Classical.choose (each i hi) else nd0, fun i hi => ?_⟩
        simp only [hi, dif_pos]
        exact Classical.choose_spec (each i hi)
      have c00 := (hX 0 (by omega)).1 0 (by omega)
      simp only [Nat.zero_mul, Addr.add_zero', List.getElem?_cons_zero] at c00
      obtain ⟨b, off, rfl, hlt⟩ := addr_plain (a := a') (by rw [Addr.add_zero']; exact c00)
      refine ⟨(List.range len).map X, by simp, by simpa using hmx, b, off, fun _ => ⟨rfl, hlt⟩, fun k hk => ?_⟩
      have hk' : k < len := by simpa using hk
      rw [ndAt_map _ _ _ hk']
      obtain ⟨hc, hs⟩ := hX k (by omega)
      refine ⟨?_, ?_, ?_, ?_, ?_, ?_, hs⟩
      · have := hc 0 (by omega); rw [Addr.add_lit, Addr.add_lit] at this; exact this
      · have := hc 1 (by omega); rw [Addr.add_lit, Addr.add_lit] at this; exact this
      · have := hc 2 (by omega); rw [Addr.add_lit, Addr.add_lit] at this; exact this
      · have := hc 3 (by omega); rw [Addr.add_lit, Addr.add_lit] at this; exact this
      · have := hc 4 (by omega); rw [Addr.add_lit, Addr.add_lit] at this; exact this
      · have := hc 5 (by omega); rw [Addr.add_lit, Addr.add_lit] at this; exact this

theorem open_heard {n : Nat} {cs : List Value} {y : DataW H × List MemPlace} (h : DataW.trod enc Try.prog w base spare held n 44 cs = some y) :
    ∃ x : HD, cs = [.string x.addr, .int .i64 x.ago] ∧ (Lit.int .i64 x.ago).wf = true := by
  obtain ⟨xs, m, -, -, hlen, hxl, hf⟩ := DataW.trod_struct Try.underlying44 h
  rw [Try.cells44] at hlen
  obtain ⟨y0, y1, rfl⟩ := len2 hxl
  obtain ⟨v0, v1, rfl⟩ := len2 hlen
  · skip
    have g0 := hf 0 _ rfl
    have g1 := hf 1 _ rfl
    simp [Try.cells9, Try.cells2] at g0 g1
    obtain ⟨s, e0, -, -⟩ := DataW.trod_string Try.underlying9 g0
    obtain ⟨z1, e1, -, hw⟩ := DataW.trod_int Try.underlying2 g1
    simp at e0 e1
    subst e0 e1
    exact ⟨{ addr := s, ago := z1 }, rfl, hw⟩

theorem open_HR {fuel : Nat} {a : Option Addr} {len cap : Nat} {x : DataW H × List MemPlace} (h : DataW.trod enc Try.prog w base spare held fuel 24 [.slice a len cap] = some x) :
    ∃ hs, len = List.length hs ∧ HR w a hs ∧ ∀ k, k < hs.length → (Lit.int .i64 (hdAt hs k).ago).wf = true := by
  rcases open_slice Try.underlying24 h with ⟨hcs, -⟩ | ⟨a', len', cap', m, n, D, Pl, hcs, -, hl, hm, hmm, -, hcell⟩
  · simp only [List.cons.injEq, Value.slice.injEq, and_true] at hcs
    obtain ⟨rfl, rfl, rfl⟩ := hcs
    exact ⟨[], rfl, ⟨by simp, 0, 0, fun h => (h rfl).elim, fun k hk => by simp at hk⟩, fun k hk => by simp at hk⟩
  · simp only [List.cons.injEq, Value.slice.injEq, and_true] at hcs
    obtain ⟨rfl, rfl, rfl⟩ := hcs
    have hlm : len ≤ m := by rw [hmm]; split <;> omega
    have hmx : len ≤ 9223372036854775807 := by have : cap ≤ 2 ^ 63 - 1 := hm; omega
    rcases Nat.eq_zero_or_pos len with q | q
    · subst q
      exact ⟨[], rfl, ⟨by simp, 0, 0, fun h => (h rfl).elim, fun k hk => by simp at hk⟩, fun k hk => by simp at hk⟩
    · rw [Try.cells44] at hcell
      have each : ∀ i, i < m → ∃ x : HD, (∀ j, j < 2 → w.cell? ((a'.add (i * 2)).add j) = [Value.string x.addr, .int .i64 x.ago][j]?) ∧ (Lit.int .i64 x.ago).wf = true := by
        intro i hi
        obtain ⟨cs', h1, h2⟩ := hcell i hi
        obtain ⟨-, -, hc⟩ := World.cells?_some h1
        obtain ⟨x, rfl, hs⟩ := open_heard h2
        exact ⟨x, hc, hs⟩
      obtain ⟨X, hX⟩ : ∃ X : Nat → HD, ∀ i, i < m → (∀ j, j < 2 → w.cell? ((a'.add (i * 2)).add j) = [Value.string (X i).addr, .int .i64 (X i).ago][j]?) ∧ (Lit.int .i64 (X i).ago).wf = true := by
        refine ⟨fun i => if hi : i < m then Classical.choose (each i hi) else hd0, fun i hi => ?_⟩
        simp only [hi, dif_pos]
        exact Classical.choose_spec (each i hi)
      have c00 := (hX 0 (by omega)).1 0 (by omega)
      simp only [Nat.zero_mul, Addr.add_zero', List.getElem?_cons_zero] at c00
      obtain ⟨b, off, rfl, hlt⟩ := addr_plain (a := a') (by rw [Addr.add_zero']; exact c00)
      refine ⟨(List.range len).map X, by simp, ⟨by simpa using hmx, b, off, fun _ => ⟨rfl, hlt⟩, fun k hk => ?_⟩, fun k hk => ?_⟩
      · have hk' : k < len := by simpa using hk
        rw [hdAt_map _ _ _ hk']
        obtain ⟨hc, hs⟩ := hX k (by omega)
        refine ⟨?_, ?_⟩
        · have := hc 0 (by omega); rw [Addr.add_lit, Addr.add_lit] at this; exact this
        · have := hc 1 (by omega); rw [Addr.add_lit, Addr.add_lit] at this; exact this
      · have hk' : k < len := by simpa using hk
        rw [hdAt_map _ _ _ hk']
        exact (hX k (by omega)).2
end
end Go.Proofs.Qxb6630552a
