import Derived.Test.Qxb6630623aMain
import Derived.Deep.Strs
import Derived.ProofKit
/- THE ARGUMENTS, READ: a slice of Rec. -/
namespace Go.Proofs.Qxb6630623a
set_option linter.unusedVariables false
set_option linter.unusedSimpArgs false
open Go.RowKit Go.Deep

theorem rdAt_map (f : Nat → RD) (n k : Nat) (h : k < n) : rdAt ((List.range n).map f) k = f k := by simp [rdAt, h]
theorem plain_addr {w : World} {a : Addr} {v : Value} (h : w.cell? a = some v) : a.spot = none ∧ a.block < w.heap.size := by
  refine ⟨?_, World.block_lt_of_cell? w a h⟩
  unfold World.cell? at h
  cases hx : w.heap[a.block]? with
  | none => rw [hx] at h; cases h
  | some o =>
    rw [hx] at h
    cases o <;> simp at h
    cases hs : a.spot with
    | none => rfl
    | some s => rw [hs] at h; simp at h
theorem addr_plain {w : World} {a : Addr} {v : Value} (h : w.cell? (a.add 0) = some v) : ∃ b off, a = ⟨b, off, none⟩ ∧ b < w.heap.size := by
  rw [Addr.add_zero'] at h
  obtain ⟨b, off, sp⟩ := a
  obtain ⟨h1, h2⟩ := plain_addr h
  cases h1
  exact ⟨b, off, rfl, h2⟩
theorem len3 {A : Type} {xs : List A} (h : xs.length = 3) : ∃ a b c, xs = [a, b, c] := by
  rcases xs with - | ⟨a, - | ⟨b, - | ⟨c, - | ⟨d, t⟩⟩⟩⟩ <;> simp at h
  exact ⟨a, b, c, rfl⟩

section
variable {H : Type} {enc : TypeId × Value → H} {w : World} {base : Nat} {spare : Nat → Bool} {held : Bool}

theorem Try.cells35 : Try.prog.cellsOf 35 = 3 := by kernel_rfl
theorem Try.cells9 : Try.prog.cellsOf 9 = 1 := by kernel_rfl
theorem Try.cells2 : Try.prog.cellsOf 2 = 1 := by kernel_rfl

theorem open_rec {n : Nat} {cs : List Value} {y : DataW H × List MemPlace} (h : DataW.trod enc Try.prog w base spare held n 35 cs = some y) :
    ∃ x : RD, cs = [.int .i64 x.ev, .string x.pat, .string x.ref] := by
  obtain ⟨xs, m, -, -, hlen, hxl, hf⟩ := DataW.trod_struct Try.underlying35 h
  rw [Try.cells35] at hlen
  obtain ⟨y0, y1, y2, rfl⟩ := len3 hxl
  obtain ⟨v0, v1, v2, rfl⟩ := len3 hlen
  have g0 := hf 0 _ rfl
  have g1 := hf 1 _ rfl
  have g2 := hf 2 _ rfl
  simp [Try.cells9, Try.cells2] at g0 g1 g2
  obtain ⟨z, e0, -, -⟩ := DataW.trod_int Try.underlying2 g0
  obtain ⟨s1, e1, -, -⟩ := DataW.trod_string Try.underlying9 g1
  obtain ⟨s2, e2, -, -⟩ := DataW.trod_string Try.underlying9 g2
  simp at e0 e1 e2
  subst e0 e1 e2
  exact ⟨⟨z, s1, s2⟩, rfl⟩

theorem open_RR {fuel : Nat} {a : Option Addr} {len cap : Nat} {x : DataW H × List MemPlace} (h : DataW.trod enc Try.prog w base spare held fuel 22 [.slice a len cap] = some x) : ∃ rs, len = List.length rs ∧ RR w a rs := by
  rcases open_slice Try.underlying22 h with ⟨hcs, -⟩ | ⟨a', len', cap', m, n, D, Pl, hcs, -, hl, hm, hmm, -, hcell⟩
  · simp only [List.cons.injEq, Value.slice.injEq, and_true] at hcs
    obtain ⟨rfl, rfl, rfl⟩ := hcs
    exact ⟨[], rfl, by simp, 0, 0, fun h => (h rfl).elim, fun k hk => by simp at hk⟩
  · simp only [List.cons.injEq, Value.slice.injEq, and_true] at hcs
    obtain ⟨rfl, rfl, rfl⟩ := hcs
    have hlm : len ≤ m := by rw [hmm]; split <;> omega
    have hmx : len ≤ 9223372036854775807 := by have : cap ≤ 2 ^ 63 - 1 := hm; omega
    rcases Nat.eq_zero_or_pos len with q | q
    · subst q
      exact ⟨[], rfl, by simp, 0, 0, fun h => (h rfl).elim, fun k hk => by simp at hk⟩
    · rw [Try.cells35] at hcell
      have each : ∀ i, i < m → ∃ x : RD, ∀ j, j < 3 → w.cell? ((a'.add (i * 3)).add j) = [Value.int .i64 x.ev, .string x.pat, .string x.ref][j]? := by
        intro i hi
        obtain ⟨cs', h1, h2⟩ := hcell i hi
        obtain ⟨-, -, hc⟩ := World.cells?_some h1
        obtain ⟨x, rfl⟩ := open_rec h2
        exact ⟨x, hc⟩
      obtain ⟨X, hX⟩ : ∃ X : Nat → RD, ∀ i, i < m → ∀ j, j < 3 → w.cell? ((a'.add (i * 3)).add j) = [Value.int .i64 (X i).ev, .string (X i).pat, .string (X i).ref][j]? := by
        refine ⟨fun i => if hi : i < m then Classical.choose (each i hi) else ⟨0, ByteArray.empty, ByteArray.empty⟩, fun i hi => ?_⟩
        simp only [hi, dif_pos]
        exact Classical.choose_spec (each i hi)
      have c00 := hX 0 (by omega) 0 (by omega)
      simp only [Nat.zero_mul, Addr.add_zero', List.getElem?_cons_zero] at c00
      obtain ⟨b, off, rfl, hlt⟩ := addr_plain (a := a') (by rw [Addr.add_zero']; exact c00)
      refine ⟨(List.range len).map X, by simp, by simpa using hmx, b, off, fun _ => ⟨rfl, hlt⟩, fun k hk => ?_⟩
      have hk' : k < len := by simpa using hk
      rw [rdAt_map _ _ _ hk']
      have hc := hX k (by omega)
      refine ⟨?_, ?_, ?_⟩
      · have := hc 0 (by omega); rw [Addr.add_lit, Addr.add_lit] at this; exact this
      · have := hc 1 (by omega); rw [Addr.add_lit, Addr.add_lit] at this; exact this
      · have := hc 2 (by omega); rw [Addr.add_lit, Addr.add_lit] at this; exact this
end
end Go.Proofs.Qxb6630623a
