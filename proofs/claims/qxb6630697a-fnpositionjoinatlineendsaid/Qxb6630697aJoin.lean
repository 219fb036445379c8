import Derived.Test.Qxb6630697aWalk
/- FnPositionJoinAtLineEnd (4): the plain law and the walk. -/
namespace Go.Proofs.Qxb6630697a
set_option linter.unusedVariables false
set_option linter.unusedSimpArgs false
open Go.RowKit

/-- T is A (n bytes), CR LF, B (m bytes). -/
structure Jn (A B T : Nat → Nat) (n m : Nat) : Prop where
  a : ∀ j, j < n → T j = A j
  cr : T n = 13
  lf : T (n + 1) = 10
  b : ∀ j, j < m → T (n + 2 + j) = B j
theorem LE_eq (B B' : Nat → Nat) (N N' j j' : Nat) (h : (B j = 10 ∨ (B j = 13 ∧ ¬ (j + 1 < N ∧ B (j + 1) = 10))) ↔ (B' j' = 10 ∨ (B' j' = 13 ∧ ¬ (j' + 1 < N' ∧ B' (j' + 1) = 10)))) : LE B N j = LE B' N' j' := by
  rw [Bool.eq_iff_iff, LE_iff, LE_iff]; exact h
theorem Jn.leA {A B T : Nat → Nat} {n m : Nat} (h : Jn A B T n m) (j : Nat) (hj : j < n) : LE T (n + 2 + m) j = LE A n j := by
  refine LE_eq _ _ _ _ _ _ ?_
  have h1 := h.a j hj
  by_cases e : j + 1 < n
  · have h2 := h.a (j + 1) e; omega
  · have h2 : j + 1 = n := by omega
    have h3 := h.cr
    rw [h2]; omega
theorem Jn.leB {A B T : Nat → Nat} {n m : Nat} (h : Jn A B T n m) (j : Nat) (hj : j < m) : LE T (n + 2 + m) (n + 2 + j) = LE B m j := by
  refine LE_eq _ _ _ _ _ _ ?_
  have h1 := h.b j hj
  by_cases e : j + 1 < m
  · have h2 := h.b (j + 1) e
    rw [show n + 2 + (j + 1) = n + 2 + j + 1 by omega] at h2
    omega
  · omega
theorem Jn.cntA {A B T : Nat → Nat} {n m : Nat} (h : Jn A B T n m) : ∀ j, j ≤ n → cntE T (n + 2 + m) j = cntE A n j ∧ st T (n + 2 + m) j = st A n j := by
  intro j
  induction j with
  | zero => intro _; exact ⟨rfl, rfl⟩
  | succ j ih =>
    intro hj
    obtain ⟨i1, i2⟩ := ih (by omega)
    unfold cntE st
    rw [h.leA j (by omega), i1, i2]
    exact ⟨rfl, rfl⟩
theorem Jn.two {A B T : Nat → Nat} {n m : Nat} (h : Jn A B T n m) : cntE T (n + 2 + m) (n + 1) = cntE T (n + 2 + m) n ∧ st T (n + 2 + m) (n + 1) = st T (n + 2 + m) n ∧ cntE T (n + 2 + m) (n + 2) = cntE T (n + 2 + m) n + 1 ∧ st T (n + 2 + m) (n + 2) = n + 2 := by
  have h1 : LE T (n + 2 + m) n = false := LE_false _ _ _ (by have := h.cr; have := h.lf; omega)
  have h2 : LE T (n + 2 + m) (n + 1) = true := (LE_iff _ _ _).2 (.inl h.lf)
  have e1 : cntE T (n + 2 + m) (n + 1) = cntE T (n + 2 + m) n := by
    show cntE T (n + 2 + m) n + (if LE T (n + 2 + m) n then 1 else 0) = _; rw [h1]; rfl
  refine ⟨e1, ?_, ?_, ?_⟩
  · show (if LE T (n + 2 + m) n then n + 1 else st T (n + 2 + m) n) = _; rw [h1]; rfl
  · show cntE T (n + 2 + m) (n + 1) + (if LE T (n + 2 + m) (n + 1) then 1 else 0) = _; rw [h2, e1]; rfl
  · show (if LE T (n + 2 + m) (n + 1) then n + 1 + 1 else st T (n + 2 + m) (n + 1)) = _; rw [h2]; rfl
theorem Jn.cntB {A B T : Nat → Nat} {n m : Nat} (h : Jn A B T n m) : ∀ k, k ≤ m → cntE T (n + 2 + m) (n + 2 + k) = cntE T (n + 2 + m) n + 1 + cntE B m k ∧ st T (n + 2 + m) (n + 2 + k) = n + 2 + st B m k := by
  intro k
  induction k with
  | zero => intro _; obtain ⟨_, _, h3, h4⟩ := h.two; exact ⟨h3, h4⟩
  | succ k ih =>
    intro hk
    obtain ⟨i1, i2⟩ := ih (by omega)
    constructor
    · show cntE T (n + 2 + m) (n + 2 + k) + (if LE T (n + 2 + m) (n + 2 + k) then 1 else 0) = _ + (cntE B m k + if LE B m k then 1 else 0)
      rw [h.leB k (by omega), i1, Nat.add_assoc]
    · show (if LE T (n + 2 + m) (n + 2 + k) then n + 2 + k + 1 else st T (n + 2 + m) (n + 2 + k)) = n + 2 + (if LE B m k then k + 1 else st B m k)
      rw [h.leB k (by omega), i2]
      split <;> omega
theorem Jn.pos {A B T : Nat → Nat} {n m k : Nat} (h : Jn A B T n m) (hk : k ≤ m) :
    (PL T (n + 2 + m) n = PL A n n ∧ PC T (n + 2 + m) n = PC A n n) ∧ (PL T (n + 2 + m) (n + 1) = PL A n n ∧ PC T (n + 2 + m) (n + 1) = PC A n n) ∧
    (PL T (n + 2 + m) (n + 2) = PL A n n + 1 ∧ PC T (n + 2 + m) (n + 2) = 1) ∧ (PL T (n + 2 + m) (n + 2 + k) = PL A n n + PL B m k ∧ PC T (n + 2 + m) (n + 2 + k) = PC B m k) := by
  obtain ⟨a1, a2⟩ := h.cntA n (Nat.le_refl _)
  obtain ⟨t1, t2, t3, t4⟩ := h.two
  obtain ⟨b1, b2⟩ := h.cntB k hk
  have hcr := h.cr
  have hlf := h.lf
  have enA : en A n n = n := by unfold en; rw [if_neg (by omega)]
  have en0 : en T (n + 2 + m) n = n := by unfold en; rw [if_neg (by omega)]
  have en1 : en T (n + 2 + m) (n + 1) = n := by unfold en; rw [if_pos ⟨by omega, by omega, by simpa using hcr, hlf⟩]; omega
  have en2 : en T (n + 2 + m) (n + 2) = n + 2 := by
    unfold en; rw [if_neg (by rw [show n + 2 - 1 = n + 1 by omega]; omega)]
  have enB : en T (n + 2 + m) (n + 2 + k) = n + 2 + en B m k := by
    unfold en
    by_cases e0 : k = 0
    · subst e0
      rw [if_neg (by rw [show n + 2 + 0 - 1 = n + 1 by omega]; omega), if_neg (by omega)]
    · have h1 := h.b (k - 1) (by omega)
      rw [show n + 2 + (k - 1) = n + 2 + k - 1 by omega] at h1
      by_cases e1 : k < m
      · have h2 := h.b k e1
        by_cases e2 : B (k - 1) = 13 ∧ B k = 10
        · rw [if_pos (by omega), if_pos (by omega)]; omega
        · rw [if_neg (by omega), if_neg (by omega)]
      · rw [if_neg (by omega), if_neg (by omega)]
  have rA : rc T n (st A n n) = rc A n (st A n n) := by
    have := rc_move T A 0 n (fun j hj => by rw [Nat.zero_add]; exact h.a j hj) _ (st A n n) (Nat.le_refl _)
    rwa [Nat.zero_add, Nat.zero_add] at this
  have rB : rc T (n + 2 + en B m k) (n + 2 + st B m k) = rc B (en B m k) (st B m k) := by
    have := en_le B m k
    exact rc_move T B (n + 2) (en B m k) (fun j hj => h.b j (by omega)) _ (st B m k) (Nat.le_refl _)
  unfold PL PC
  rw [enA, en0, en1, en2, enB, t2, a2, t4, b2, rA, rB, t1, t3, b1, a1, rc_end T (n + 2) (n + 2) (Nat.le_refl _)]
  refine ⟨⟨rfl, rfl⟩, ⟨rfl, rfl⟩, ⟨by omega, rfl⟩, by omega, rfl⟩

/-- a, CR LF, b. -/
def crlf : ByteArray := ⟨#[13, 10]⟩
theorem bt_app_l (a b : ByteArray) (j : Nat) (h : j < a.size) : bt (a ++ b) j = bt a j := by
  unfold bt
  have h1 : j < (a ++ b).size := by rw [ByteArray.size_append]; omega
  have e1 : (a ++ b).get! j = (a ++ b)[j]'h1 := get_at _ j h1
  have e2 : a.get! j = a[j]'h := get_at a j h
  rw [e1, e2, ByteArray.getElem_append_left h]
theorem bt_app_r (a b : ByteArray) (j : Nat) (h : j < b.size) : bt (a ++ b) (a.size + j) = bt b j := by
  unfold bt
  have h1 : a.size + j < (a ++ b).size := by rw [ByteArray.size_append]; omega
  have e1 : (a ++ b).get! (a.size + j) = (a ++ b)[a.size + j]'h1 := get_at _ _ h1
  have e2 : b.get! j = b[j]'h := get_at b j h
  rw [e1, e2, ByteArray.getElem_append_right (by omega)]
  congr 2
  omega
theorem crlf_size : crlf.size = 2 := rfl
theorem jn_size (a b : ByteArray) : (a ++ crlf ++ b).size = a.size + 2 + b.size := by
  rw [ByteArray.size_append, ByteArray.size_append, crlf_size]
theorem jn_of (a b : ByteArray) : Jn (bt a) (bt b) (bt (a ++ crlf ++ b)) a.size b.size := by
  have hs : (a ++ crlf).size = a.size + 2 := by rw [ByteArray.size_append, crlf_size]
  refine ⟨fun j hj => ?_, ?_, ?_, fun j hj => ?_⟩
  · rw [bt_app_l _ _ j (by omega), bt_app_l _ _ j hj]
  · rw [bt_app_l _ _ _ (by omega)]
    exact bt_app_r a crlf 0 (by decide)
  · rw [bt_app_l _ _ _ (by omega)]
    exact bt_app_r a crlf 1 (by decide)
  · rw [← hs]; exact bt_app_r (a ++ crlf) b j hj
def IsB (e : Ending) : Prop := ∃ v : Bool, e = .returned (.bool v)
theorem bytes9_any (a b : ByteArray) (x : Value) (w : World) (ha : a.size ≤ maxLen) (hb : b.size ≤ maxLen) : Calls Try.prog 9 #[.string a, .string b, x] w fun e w' => IsB e ∧ w' = w := by
  have hmax : maxLen = 9223372036854775807 := by decide +kernel
  have hai : (a.size : Int) ≤ 9223372036854775807 := by omega
  have hbi : (b.size : Int) ≤ 9223372036854775807 := by omega
  clear hmax ha hb
  by_cases h1 : (1048576 : Int) < a.size
  · go_enter Try.func9, Try.ntmps9
    go_wp2
    go_ret
    exact ⟨⟨_, rfl⟩, rfl⟩
  · by_cases h2 : (1048576 : Int) < b.size
    · go_enter Try.func9, Try.ntmps9
      go_wp2
      go_ret
      exact ⟨⟨_, rfl⟩, rfl⟩
    · by_cases h3 : (1048576 : Int) < (a.size : Int) + b.size
      · go_enter Try.func9, Try.ntmps9
        go_wp2
        go_ret
        exact ⟨⟨_, rfl⟩, rfl⟩
      · go_enter Try.func9, Try.ntmps9
        go_wp2
        go_ret
        exact ⟨⟨_, rfl⟩, rfl⟩

theorem add9 (a b : ByteArray) (h : a.size + b.size ≤ 1099511627776) : ∀ W, (binOp .add 9 (.string a) (.string b)).run Try.prog W = .ok (.string (a ++ b)) W := by
  intro W
  go_simp
  omega
set_option maxRecDepth 20000 in
theorem join_any (a b : ByteArray) (k : Int) (w : World) (ha : a.size ≤ maxLen) (hb : b.size ≤ maxLen) :
    Calls Try.prog 4 #[.string a, .string b, .int .i64 k] w fun e w' => e = .returned (.bool true) ∧ Grown w w' := by
  by_cases h1 : (524288 : Int) < a.size
  · go_enter Try.func4, Try.ntmps4
    go_wp2_with (first | (go_at_call 9; refine (bytes9_any _ _ _ _ ha hb).mono ?_; rintro e w' ⟨⟨v, rfl⟩, hw'⟩; have hw' := hw'.symm; subst hw'; cases v))
    all_goals (go_ret; exact ⟨rfl, Grown.refl _⟩)
  · by_cases h2 : (524288 : Int) < b.size
    · go_enter Try.func4, Try.ntmps4
      go_wp2_with (first | (go_at_call 9; refine (bytes9_any _ _ _ _ ha hb).mono ?_; rintro e w' ⟨⟨v, rfl⟩, hw'⟩; have hw' := hw'.symm; subst hw'; cases v))
      all_goals (go_ret; exact ⟨rfl, Grown.refl _⟩)
    · by_cases h3 : k < 0
      · go_enter Try.func4, Try.ntmps4
        go_wp2_with (first | (go_at_call 9; refine (bytes9_any _ _ _ _ ha hb).mono ?_; rintro e w' ⟨⟨v, rfl⟩, hw'⟩; have hw' := hw'.symm; subst hw'; cases v))
        all_goals (go_ret; exact ⟨rfl, Grown.refl _⟩)
      · by_cases h4 : (b.size : Int) < k
        · go_enter Try.func4, Try.ntmps4
          go_wp2_with (first | (go_at_call 9; refine (bytes9_any _ _ _ _ ha hb).mono ?_; rintro e w' ⟨⟨v, rfl⟩, hw'⟩; have hw' := hw'.symm; subst hw'; cases v))
          all_goals (go_ret; exact ⟨rfl, Grown.refl _⟩)
        · obtain ⟨K, rfl⟩ : ∃ K : Nat, k = K := ⟨k.toNat, by omega⟩
          have hK : K ≤ b.size := by omega
          have hs := jn_size a b
          obtain ⟨⟨p1, p2⟩, ⟨p3, p4⟩, ⟨p5, p6⟩, p7, p8⟩ := (jn_of a b).pos hK
          rw [← hs] at p1 p2 p3 p4 p5 p6 p7 p8
          obtain ⟨t, ht⟩ : ∃ t, t = a ++ crlf ++ b := ⟨_, rfl⟩
          rw [← ht] at hs p1 p2 p3 p4 p5 p6 p7 p8
          have PA : ∀ w, _ := fun w => position_any a a.size w (Nat.le_refl _) (by omega)
          have PB : ∀ w, _ := fun w => position_any b K w hK (by omega)
          have P0 : ∀ w, _ := fun w => position_any t a.size w (by omega) (by omega)
          have P1 : ∀ w, _ := fun w => position_any t (a.size + 1) w (by omega) (by omega)
          have P2 : ∀ w, _ := fun w => position_any t (a.size + 2) w (by omega) (by omega)
          have P3 : ∀ w, _ := fun w => position_any t (a.size + 2 + K) w (by omega) (by omega)
          have l1 := PL_le (bt a) a.size a.size
          have l2 := PL_le (bt b) b.size K
          unfold PosP at PA PB P0 P1 P2 P3
          rw [p1, p2] at P0
          rw [p3, p4, show ((a.size + 1 : Nat) : Int) = (a.size : Int) + 1 by omega] at P1
          rw [p5, p6, show ((a.size + 2 : Nat) : Int) = (a.size : Int) + 2 by omega] at P2
          rw [p7, p8, show ((a.size + 2 + K : Nat) : Int) = (a.size : Int) + 2 + K by omega] at P3
          clear p1 p2 p3 p4 p5 p6 p7 p8
          unfold crlf at ht
          have hts : (a.size : Int) + 2 + b.size ≤ 9223372036854775807 := by omega
          clear hs
          subst ht
          generalize PL (bt a) a.size a.size = la at *
          generalize PC (bt a) a.size a.size = ca at *
          generalize PL (bt b) b.size K = lb at *
          generalize PC (bt b) b.size K = cb at *
          have ee1 : ((la + 1 : Nat) : Int) = (la : Int) + 1 := by omega
          have ee2 : ((la + lb : Nat) : Int) = (la : Int) + lb := by omega
          have ee3 : ((1 : Nat) : Int) = 1 := rfl
          rw [ee1, ee3] at P2
          rw [ee2] at P3
          clear ee1 ee2 ee3
          have PAA := mkHid PA
          have PBB := mkHid PB
          have P00 := mkHid P0
          have P11 := mkHid P1
          have P22 := mkHid P2
          have P33 := mkHid P3
          clear PA PB P0 P1 P2 P3
          go_enter Try.func4, Try.ntmps4
          go_wp2_with (first | (go_at_call 9; refine (bytes9_any _ _ _ _ ha hb).mono ?_; rintro e w' ⟨⟨v, rfl⟩, hw'⟩; have hw' := hw'.symm; subst hw'; cases v) | fail)
          · go_ret
            exact ⟨rfl, Grown.refl _⟩
          · refine (PAA.out _).mono ?_
            rintro e w0 ⟨rfl, hg0⟩
            have G0 := mkHid hg0
            clear hg0 PAA
            go_wp2_with (fail)
            refine (PBB.out _).mono ?_
            rintro e w1 ⟨rfl, hg1⟩
            have G1 := mkHid hg1
            clear hg1 PBB
            go_wp2_with (fail)
            refine (P00.out _).mono ?_
            rintro e w2 ⟨rfl, hg2⟩
            have G2 := mkHid hg2
            clear hg2 P00
            go_wp2_with (fail)
            refine (P11.out _).mono ?_
            rintro e w3 ⟨rfl, hg3⟩
            have G3 := mkHid hg3
            clear hg3 P11
            go_wp2_with (fail)
            refine (P22.out _).mono ?_
            rintro e w4 ⟨rfl, hg4⟩
            have G4 := mkHid hg4
            clear hg4 P22
            go_wp2_with (fail)
            refine (P33.out _).mono ?_
            rintro e w5 ⟨rfl, hg5⟩
            have G5 := mkHid hg5
            clear hg5 P33
            go_wp2
            go_ret
            exact ⟨rfl, Grown.trans (Grown.trans (Grown.trans (Grown.trans (Grown.trans G0.out G1.out) G2.out) G3.out) G4.out) G5.out⟩
end Go.Proofs.Qxb6630697a
