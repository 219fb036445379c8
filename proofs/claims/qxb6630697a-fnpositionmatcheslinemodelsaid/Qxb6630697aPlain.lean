import Derived.Lib.DecodeNEq
/- LINES AND COLUMNS, PLAIN: a text is a function B from places to bytes and a length N. -/
namespace Go.Proofs.Qxb6630697a
set_option linter.unusedVariables false
set_option linter.unusedSimpArgs false
open Go.Lib (decodeN)

def DB (B : Nat → Nat) (M i : Nat) : Nat × Nat := decodeN (M - i) (B i) (B (i + 1)) (B (i + 2)) (B (i + 3))
/-- How many bytes the character at i has, of the text's first M bytes. -/
def W (B : Nat → Nat) (M i : Nat) : Nat := (DB B M i).2

theorem decodeN_ascii (n b0 b1 b2 b3 : Nat) (h : b0 < 128) : decodeN n b0 b1 b2 b3 = (b0, 1) := by simp [decodeN, h]
theorem decodeN_pos (n b0 b1 b2 b3 : Nat) : 1 ≤ (decodeN n b0 b1 b2 b3).2 := by
  unfold decodeN
  repeat' split
  all_goals simp
theorem decodeN_fit (n b0 b1 b2 b3 : Nat) (h : 0 < n) : (decodeN n b0 b1 b2 b3).2 ≤ n := by
  unfold decodeN
  repeat' split
  all_goals simp only
  all_goals omega
theorem decodeN_high (n b0 b1 b2 b3 : Nat) (h : 128 ≤ b0) : 128 ≤ (decodeN n b0 b1 b2 b3).1 := by
  unfold decodeN
  repeat' split
  all_goals simp only
  all_goals omega
theorem decodeN_tail (n b0 b1 b2 b3 : Nat) : (2 ≤ (decodeN n b0 b1 b2 b3).2 → 128 ≤ b1) ∧ (3 ≤ (decodeN n b0 b1 b2 b3).2 → 128 ≤ b2) ∧ (4 ≤ (decodeN n b0 b1 b2 b3).2 → 128 ≤ b3) ∧ (decodeN n b0 b1 b2 b3).2 ≤ 4 := by
  unfold decodeN
  repeat' split
  all_goals simp only
  all_goals omega
theorem decodeN_le1 (n b0 b1 b2 b3 c1 c2 c3 : Nat) (hn : n ≤ 1) : decodeN n b0 b1 b2 b3 = decodeN n b0 c1 c2 c3 := by
  have h1 : ¬ 1 < n := by omega
  simp only [decodeN, h1, false_and, and_false, if_false]
theorem decodeN_le2 (n b0 b1 b2 b3 c2 c3 : Nat) (hn : n ≤ 2) : decodeN n b0 b1 b2 b3 = decodeN n b0 b1 c2 c3 := by
  have h1 : ¬ 2 < n := by omega
  simp only [decodeN, h1, false_and, and_false, if_false]
theorem decodeN_le3 (n b0 b1 b2 b3 c3 : Nat) (hn : n ≤ 3) : decodeN n b0 b1 b2 b3 = decodeN n b0 b1 b2 c3 := by
  have h1 : ¬ 3 < n := by omega
  simp only [decodeN, h1, false_and, and_false, if_false]
theorem decodeN_more (n n' b0 b1 b2 b3 : Nat) (hn : 4 ≤ n) (hn' : 4 ≤ n') : decodeN n b0 b1 b2 b3 = decodeN n' b0 b1 b2 b3 := by
  have h1 : (1 < n) = True := eq_true (by omega)
  have h2 : (2 < n) = True := eq_true (by omega)
  have h3 : (3 < n) = True := eq_true (by omega)
  have h1' : (1 < n') = True := eq_true (by omega)
  have h2' : (2 < n') = True := eq_true (by omega)
  have h3' : (3 < n') = True := eq_true (by omega)
  simp only [decodeN, h1, h2, h3, h1', h2', h3']
/-- A byte below 128 behind the end is as good as the end. -/
theorem decodeN_cut1 (b0 b1 b2 b3 : Nat) (h : b1 < 128) : decodeN 2 b0 b1 b2 b3 = decodeN 1 b0 b1 b2 b3 := by
  have h1 : ¬ (b1 / 64 = 2) := by omega
  simp only [decodeN, h1, false_and, and_false, if_false]
theorem decodeN_cut2 (b0 b1 b2 b3 : Nat) (h : b2 < 128) : decodeN 3 b0 b1 b2 b3 = decodeN 2 b0 b1 b2 b3 := by
  have h1 : ¬ (b2 / 64 = 2) := by omega
  have h2 : (1 < 3) = True := eq_true (by omega)
  have h3 : (1 < 2) = True := eq_true (by omega)
  simp only [decodeN, h1, h2, h3, false_and, and_false, if_false]
theorem decodeN_cut3 (b0 b1 b2 b3 : Nat) (h : b3 < 128) : decodeN 4 b0 b1 b2 b3 = decodeN 3 b0 b1 b2 b3 := by
  have h1 : ¬ (b3 / 64 = 2) := by omega
  have h2 : (1 < 4) = True := eq_true (by omega)
  have h3 : (1 < 3) = True := eq_true (by omega)
  have h4 : (2 < 4) = True := eq_true (by omega)
  have h5 : (2 < 3) = True := eq_true (by omega)
  simp only [decodeN, h1, h2, h3, h4, h5, false_and, and_false, if_false]

theorem DB_congr (B B' : Nat → Nat) (M i : Nat) (hi : i < M) (h : ∀ j, i ≤ j → j < M → B j = B' j) : DB B M i = DB B' M i := by
  unfold DB
  have h0 := h i (Nat.le_refl _) hi
  by_cases e1 : M - i ≤ 1
  · rw [h0]; exact decodeN_le1 _ _ _ _ _ _ _ _ e1
  have h1 := h (i + 1) (by omega) (by omega)
  by_cases e2 : M - i ≤ 2
  · rw [h0, h1]; exact decodeN_le2 _ _ _ _ _ _ _ e2
  have h2 := h (i + 2) (by omega) (by omega)
  by_cases e3 : M - i ≤ 3
  · rw [h0, h1, h2]; exact decodeN_le3 _ _ _ _ _ _ e3
  have h3 := h (i + 3) (by omega) (by omega)
  rw [h0, h1, h2, h3]
theorem DB_shift (B : Nat → Nat) (s M i : Nat) : DB B (s + M) (s + i) = DB (fun j => B (s + j)) M i := by
  unfold DB
  rw [show s + M - (s + i) = M - i by omega]
  simp only [Nat.add_assoc]
theorem W_congr (B B' : Nat → Nat) (M i : Nat) (hi : i < M) (h : ∀ j, i ≤ j → j < M → B j = B' j) : W B M i = W B' M i := by
  unfold W; rw [DB_congr B B' M i hi h]
theorem W_shift (B : Nat → Nat) (s M i : Nat) : W B (s + M) (s + i) = W (fun j => B (s + j)) M i := by
  unfold W; rw [DB_shift]
theorem W_pos (B : Nat → Nat) (M i : Nat) : 1 ≤ W B M i := decodeN_pos _ _ _ _ _
theorem W_fit (B : Nat → Nat) (M i : Nat) (h : i < M) : i + W B M i ≤ M := by
  have := decodeN_fit (M - i) (B i) (B (i + 1)) (B (i + 2)) (B (i + 3)) (by omega)
  unfold W DB
  omega
theorem W_tail (B : Nat → Nat) (M i k : Nat) (h1 : i < k) (h2 : k < i + W B M i) : 128 ≤ B k := by
  obtain ⟨t1, t2, t3, t4⟩ := decodeN_tail (M - i) (B i) (B (i + 1)) (B (i + 2)) (B (i + 3))
  unfold W DB at h2
  by_cases e1 : k = i + 1
  · subst e1; exact t1 (by omega)
  by_cases e2 : k = i + 2
  · subst e2; exact t2 (by omega)
  by_cases e3 : k = i + 3
  · subst e3; exact t3 (by omega)
  omega
theorem W_ascii (B : Nat → Nat) (M i : Nat) (h : B i < 128) : W B M i = 1 := by
  unfold W DB; rw [decodeN_ascii _ _ _ _ _ h]
theorem W_trunc (B : Nat → Nat) (M i : Nat) (hi : i < M) (h : B M < 128) : W B (M + 1) i = W B M i := by
  unfold W DB
  by_cases e1 : M = i + 1
  · subst e1
    rw [show i + 1 + 1 - i = 2 by omega, show i + 1 - i = 1 by omega, decodeN_cut1 _ _ _ _ h]
  by_cases e2 : M = i + 2
  · subst e2
    rw [show i + 2 + 1 - i = 3 by omega, show i + 2 - i = 2 by omega, decodeN_cut2 _ _ _ _ h]
  by_cases e3 : M = i + 3
  · subst e3
    rw [show i + 3 + 1 - i = 4 by omega, show i + 3 - i = 3 by omega, decodeN_cut3 _ _ _ _ h]
  rw [decodeN_more (M + 1 - i) (M - i) _ _ _ _ (by omega) (by omega)]

/-- How many characters stand from i on in the first M bytes. -/
def rcF (B : Nat → Nat) (M : Nat) : Nat → Nat → Nat
  | 0, _ => 0
  | f + 1, i => if i < M then 1 + rcF B M f (i + W B M i) else 0
def rc (B : Nat → Nat) (M i : Nat) : Nat := rcF B M (M - i) i
theorem rcF_end (B : Nat → Nat) (M f i : Nat) (h : M ≤ i) : rcF B M f i = 0 := by
  cases f with
  | zero => rfl
  | succ f => unfold rcF; rw [if_neg (by omega)]
theorem rcF_fuel (B : Nat → Nat) (M : Nat) : ∀ f g i, M - i ≤ f → M - i ≤ g → rcF B M f i = rcF B M g i := by
  intro f
  induction f with
  | zero => intro g i h1 h2; rw [rcF_end B M g i (by omega), rcF_end B M 0 i (by omega)]
  | succ f ih =>
    intro g i h1 h2
    cases g with
    | zero => rw [rcF_end B M (f + 1) i (by omega), rcF_end B M 0 i (by omega)]
    | succ g =>
      unfold rcF
      have := W_pos B M i
      by_cases e : i < M
      · rw [if_pos e, if_pos e, ih g (i + W B M i) (by omega) (by omega)]
      · rw [if_neg e, if_neg e]
theorem rc_end (B : Nat → Nat) (M i : Nat) (h : M ≤ i) : rc B M i = 0 := rcF_end B M _ i h
theorem rc_step (B : Nat → Nat) (M i : Nat) (h : i < M) : rc B M i = 1 + rc B M (i + W B M i) := by
  unfold rc
  have := W_pos B M i
  obtain ⟨f, hf⟩ : ∃ f, M - i = f + 1 := ⟨M - i - 1, by omega⟩
  rw [hf]
  show (if i < M then 1 + rcF B M f (i + W B M i) else 0) = _
  rw [if_pos h, rcF_fuel B M f (M - (i + W B M i)) (i + W B M i) (by omega) (Nat.le_refl _)]
theorem rc_le (B : Nat → Nat) (M : Nat) : ∀ k i, M - i ≤ k → rc B M i ≤ M - i := by
  intro k
  induction k with
  | zero => intro i h; rw [rc_end B M i (by omega)]; omega
  | succ k ih =>
    intro i h
    by_cases e : i < M
    · rw [rc_step B M i e]
      have := W_pos B M i
      have := W_fit B M i e
      have := ih (i + W B M i) (by omega)
      omega
    · rw [rc_end B M i (by omega)]; omega
theorem rc_move (B B' : Nat → Nat) (s M : Nat) (h : ∀ j, j < M → B (s + j) = B' j) : ∀ k i, M - i ≤ k → rc B (s + M) (s + i) = rc B' M i := by
  intro k
  induction k with
  | zero => intro i hk; rw [rc_end B' M i (by omega), rc_end B (s + M) (s + i) (by omega)]
  | succ k ih =>
    intro i hk
    by_cases e : i < M
    · have hw : W B (s + M) (s + i) = W B' M i := by
        rw [W_shift]; exact W_congr _ _ M i e (fun j _ hj => h j hj)
      rw [rc_step B' M i e, rc_step B (s + M) (s + i) (by omega), hw, Nat.add_assoc s, ih (i + W B' M i) (by have := W_pos B' M i; omega)]
    · rw [rc_end B' M i (by omega), rc_end B (s + M) (s + i) (by omega)]

/-- Does the byte at j end a line? -/
def LE (B : Nat → Nat) (N j : Nat) : Bool := B j == 10 || (B j == 13 && !(decide (j + 1 < N) && B (j + 1) == 10))
theorem LE_iff (B : Nat → Nat) (N j : Nat) : LE B N j = true ↔ B j = 10 ∨ (B j = 13 ∧ ¬ (j + 1 < N ∧ B (j + 1) = 10)) := by
  unfold LE
  simp only [Bool.or_eq_true, Bool.and_eq_true, beq_iff_eq, Bool.not_eq_true', Bool.and_eq_false_iff, decide_eq_false_iff_not, beq_eq_false_iff_ne, ne_eq, not_and]
  constructor
  · rintro (h | ⟨h1, h2⟩)
    · exact .inl h
    · exact .inr ⟨h1, fun h3 h4 => h2.elim (fun h => h h3) (fun h => h h4)⟩
  · rintro (h | ⟨h1, h2⟩)
    · exact .inl h
    · exact .inr ⟨h1, by
        by_cases e : j + 1 < N
        · exact .inr (h2 e)
        · exact .inl e⟩
theorem LE_false (B : Nat → Nat) (N j : Nat) (h : ¬ (B j = 10 ∨ (B j = 13 ∧ ¬ (j + 1 < N ∧ B (j + 1) = 10)))) : LE B N j = false := by
  cases e : LE B N j with
  | false => rfl
  | true => exact absurd ((LE_iff B N j).1 e) h
def cntE (B : Nat → Nat) (N : Nat) : Nat → Nat
  | 0 => 0
  | j + 1 => cntE B N j + if LE B N j then 1 else 0
/-- Where the line that holds place off begins. -/
def st (B : Nat → Nat) (N : Nat) : Nat → Nat
  | 0 => 0
  | j + 1 => if LE B N j then j + 1 else st B N j
def en (B : Nat → Nat) (N off : Nat) : Nat := if 0 < off ∧ off < N ∧ B (off - 1) = 13 ∧ B off = 10 then off - 1 else off
def PL (B : Nat → Nat) (N off : Nat) : Nat := 1 + cntE B N off
def PC (B : Nat → Nat) (N off : Nat) : Nat := 1 + rc B (en B N off) (st B N off)
theorem cntE_le (B : Nat → Nat) (N j : Nat) : cntE B N j ≤ j := by
  induction j with
  | zero => exact Nat.le_refl _
  | succ j ih => unfold cntE; split <;> omega
theorem st_le (B : Nat → Nat) (N j : Nat) : st B N j ≤ j := by
  induction j with
  | zero => exact Nat.le_refl _
  | succ j ih => unfold st; split <;> omega
theorem st_LE (B : Nat → Nat) (N j : Nat) (h : 0 < st B N j) : LE B N (st B N j - 1) = true := by
  induction j with
  | zero => simp [st] at h
  | succ j ih =>
    unfold st at h ⊢
    by_cases e : LE B N j = true
    · rw [if_pos e]; exact e
    · rw [if_neg e] at h ⊢; exact ih h
theorem st_ge (B : Nat → Nat) (N off j : Nat) (h1 : j < off) (h2 : LE B N j = true) : j + 1 ≤ st B N off := by
  induction off with
  | zero => omega
  | succ m ih =>
    unfold st
    by_cases e : LE B N m = true
    · rw [if_pos e]; omega
    · rw [if_neg e]
      by_cases e2 : j = m
      · subst e2; exact absurd h2 e
      · exact ih (by omega)
theorem cntE_none (B : Nat → Nat) (N i : Nat) : ∀ k, (∀ j, i ≤ j → j < i + k → LE B N j = false) → cntE B N (i + k) = cntE B N i := by
  intro k
  induction k with
  | zero => intro _; rfl
  | succ k ih =>
    intro h
    show cntE B N (i + k) + (if LE B N (i + k) then 1 else 0) = _
    rw [ih (fun j h1 h2 => h j h1 (by omega)), h (i + k) (by omega) (by omega)]
    simp
theorem en_le (B : Nat → Nat) (N off : Nat) : en B N off ≤ off := by unfold en; split <;> omega

/-- What holds in Position's loop at place i. -/
structure PInv (B : Nat → Nat) (N off i l c : Nat) : Prop where
  le : i ≤ off
  line : l = PL B N i
  col : i < st B N off ∨ (st B N off ≤ i ∧ c + rc B (en B N off) i = 1 + rc B (en B N off) (st B N off))
  cle : c ≤ 1 + i
theorem PInv.start (B : Nat → Nat) (N off : Nat) : PInv B N off 0 1 1 := by
  refine ⟨Nat.zero_le _, rfl, ?_, by omega⟩
  by_cases h : 0 < st B N off
  · exact .inl h
  · have e : st B N off = 0 := by omega
    rw [e]; exact .inr ⟨Nat.le_refl _, rfl⟩
theorem PInv.ret {B : Nat → Nat} {N off i l c : Nat} (h : PInv B N off i l c) (hi : i < off) (hL : LE B N i = true) : PInv B N off (i + 1) (l + 1) 1 := by
  refine ⟨hi, ?_, ?_, by omega⟩
  · rw [h.line]; unfold PL; show _ = 1 + (cntE B N i + if LE B N i then 1 else 0); rw [hL]; simp; omega
  · have := st_ge B N off i hi hL
    by_cases e : i + 1 < st B N off
    · exact .inl e
    · have e : st B N off = i + 1 := by omega
      rw [e]; exact .inr ⟨Nat.le_refl _, rfl⟩
theorem PInv.cr {B : Nat → Nat} {N off i l c : Nat} (h : PInv B N off i l c) (hi : i < off) (h1 : B i = 13) (h2 : i + 1 < N) (h3 : B (i + 1) = 10) : PInv B N off (i + 1) l c := by
  have hL : LE B N i = false := LE_false B N i (by omega)
  refine ⟨hi, ?_, ?_, by have := h.cle; omega⟩
  · rw [h.line]; unfold PL; show _ = 1 + (cntE B N i + if LE B N i then 1 else 0); rw [hL]; simp
  · rcases h.col with h4 | ⟨h4, h5⟩
    · by_cases e : i + 1 < st B N off
      · exact .inl e
      · have e : st B N off = i + 1 := by omega
        have := st_LE B N off (by omega)
        rw [e, show i + 1 - 1 = i by omega, hL] at this
        cases this
    · by_cases e : i + 1 = off
      · have he : en B N off = i := by
          unfold en; subst e; rw [if_pos ⟨by omega, h2, by simpa using h1, h3⟩]; omega
        refine .inr ⟨by omega, ?_⟩
        rw [he] at h5 ⊢
        rw [rc_end B i (i + 1) (by omega)]
        rw [rc_end B i i (Nat.le_refl _)] at h5
        exact h5
      · have := st_ge B N off (i + 1) (by omega) ((LE_iff B N (i + 1)).2 (.inl h3))
        omega
theorem PInv.other {B : Nat → Nat} {N off i l c : Nat} (h : PInv B N off i l c) (hi : i < off) (h1 : B i ≠ 10) (h2 : B i ≠ 13) : PInv B N off (i + W B off i) l (c + 1) := by
  have hw := W_pos B off i
  have hno : ∀ j, i ≤ j → j < i + W B off i → LE B N j = false := fun j k1 k2 => LE_false B N j (by
    by_cases e : j = i
    · subst e; omega
    · have := W_tail B off i j (by omega) k2; omega)
  refine ⟨W_fit B off i hi, ?_, ?_, by have := h.cle; omega⟩
  · rw [h.line]; unfold PL; rw [cntE_none B N i _ hno]
  · rcases h.col with h4 | ⟨h4, h5⟩
    · by_cases e : i + W B off i < st B N off
      · exact .inl e
      · have h6 := st_LE B N off (by omega)
        rw [hno (st B N off - 1) (by omega) (by omega)] at h6
        cases h6
    · refine .inr ⟨by omega, ?_⟩
      have he : i < en B N off ∧ W B (en B N off) i = W B off i := by
        unfold en
        by_cases e : 0 < off ∧ off < N ∧ B (off - 1) = 13 ∧ B off = 10
        · rw [if_pos e]
          have : i ≠ off - 1 := fun e2 => h2 (by rw [e2]; exact e.2.2.1)
          refine ⟨by omega, ?_⟩
          have := W_trunc B (off - 1) i (by omega) (by omega)
          rw [show off - 1 + 1 = off by omega] at this
          exact this.symm
        · rw [if_neg e]; exact ⟨hi, rfl⟩
      rw [rc_step B (en B N off) i he.1, he.2] at h5
      omega
theorem PInv.fin {B : Nat → Nat} {N off l c : Nat} (h : PInv B N off off l c) : l = PL B N off ∧ c = PC B N off := by
  refine ⟨h.line, ?_⟩
  have h1 := st_le B N off
  have h2 := en_le B N off
  rcases h.col with h4 | ⟨h4, h5⟩
  · omega
  · rw [rc_end B (en B N off) off h2] at h5; unfold PC; omega
theorem PL_le (B : Nat → Nat) (N off : Nat) : PL B N off ≤ 1 + off := by have := cntE_le B N off; unfold PL; omega
theorem PC_le (B : Nat → Nat) (N off : Nat) : PC B N off ≤ 1 + off := by
  have := rc_le B (en B N off) _ (st B N off) (Nat.le_refl _)
  have := en_le B N off
  unfold PC; omega
end Go.Proofs.Qxb6630697a
