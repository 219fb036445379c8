import Derived.Test.Qxb6630623aMaps
/- PLAIN: the records and what is to be found; no program. -/
namespace Go.Proofs.Qxb6630623a
set_option linter.unusedVariables false
set_option linter.unusedSimpArgs false

structure RD where
  ev : Int
  pat : ByteArray
  ref : ByteArray
def rdAt (l : List RD) (k : Nat) : RD := l.getD k ⟨0, ByteArray.empty, ByteArray.empty⟩
def strAt (l : List ByteArray) (k : Nat) : ByteArray := l.getD k ByteArray.empty
def intAt (l : List Int) (k : Nat) : Int := l.getD k 0
def emp (s : ByteArray) : Bool := sEq s ByteArray.empty

def lastIs (l : List Int) (e : Int) : Bool := if l.length = 0 then false else intAt l (l.length - 1) == e
def snocNew (l : List Int) (e : Int) : List Int := if lastIs l e then l else l ++ [e]
def has (l : List ByteArray) (x : ByteArray) : Bool := l.any (fun y => sEq y x)

/-- The events that name q (by u, where u is not empty), out of the first k records. -/
def mdl (rs : List RD) (q u : ByteArray) : Nat → List Int
  | 0 => []
  | k + 1 => if sEq (rdAt rs k).pat q && (emp u || sEq (rdAt rs k).ref u) then snocNew (mdl rs q u k) (rdAt rs k).ev else mdl rs q u k
/-- The patients, each once. -/
def ordOf (rs : List RD) : Nat → List ByteArray
  | 0 => []
  | k + 1 => if has (ordOf rs k) (rdAt rs k).pat then ordOf rs k else ordOf rs k ++ [(rdAt rs k).pat]
/-- The references that are not empty to q, each once. -/
def roOf (rs : List RD) (q : ByteArray) : Nat → List ByteArray
  | 0 => []
  | k + 1 => if sEq (rdAt rs k).pat q && !emp (rdAt rs k).ref && !has (roOf rs q k) (rdAt rs k).ref then roOf rs q k ++ [(rdAt rs k).ref] else roOf rs q k

theorem snocNew_le (l : List Int) (e : Int) : (snocNew l e).length ≤ l.length + 1 := by unfold snocNew; split <;> simp
theorem mdl_le (rs : List RD) (q u : ByteArray) (k : Nat) : (mdl rs q u k).length ≤ k := by
  induction k with
  | zero => simp [mdl]
  | succ k ih => simp only [mdl]; split
                 · have := snocNew_le (mdl rs q u k) (rdAt rs k).ev; omega
                 · omega
theorem ordOf_le (rs : List RD) (k : Nat) : (ordOf rs k).length ≤ k := by
  induction k with
  | zero => simp [ordOf]
  | succ k ih => simp only [ordOf]; split
                 · omega
                 · simp only [List.length_append, List.length_cons, List.length_nil]; omega
theorem roOf_le (rs : List RD) (q : ByteArray) (k : Nat) : (roOf rs q k).length ≤ k := by
  induction k with
  | zero => simp [roOf]
  | succ k ih => simp only [roOf]; split
                 · simp only [List.length_append, List.length_cons, List.length_nil]; omega
                 · omega
theorem has_snoc (l : List ByteArray) (x y : ByteArray) : has (l ++ [x]) y = (has l y || sEq x y) := by simp [has]
theorem has_nil (y : ByteArray) : has [] y = false := rfl
theorem has_strAt (l : List ByteArray) (k : Nat) (h : k < l.length) : has l (strAt l k) = true := by
  simp only [has, List.any_eq_true]
  refine ⟨strAt l k, ?_, sEq_self _⟩
  simp [strAt, h]
theorem has_iff (l : List ByteArray) (x : ByteArray) : has l x = true ↔ x ∈ l := by
  simp only [has, List.any_eq_true, sEq_iff]
  exact ⟨fun ⟨y, h1, h2⟩ => h2 ▸ h1, fun h => ⟨x, h, rfl⟩⟩

theorem mdl_of_not_ord (rs : List RD) (q u : ByteArray) (k : Nat) (h : has (ordOf rs k) q = false) : mdl rs q u k = [] := by
  induction k with
  | zero => rfl
  | succ k ih =>
    simp only [ordOf] at h
    have h1 : has (ordOf rs k) q = false ∧ sEq (rdAt rs k).pat q = false := by
      by_cases e : has (ordOf rs k) (rdAt rs k).pat = true
      · rw [if_pos e] at h
        refine ⟨h, ?_⟩
        rw [sEq_false]; intro e2; rw [e2] at e; rw [e] at h; cases h
      · rw [if_neg e, has_snoc] at h
        simpa using h
    simp [mdl, h1.2, ih h1.1]
theorem mdl_of_not_ro (rs : List RD) (q u : ByteArray) (k : Nat) (hu : emp u = false) (h : has (roOf rs q k) u = false) : mdl rs q u k = [] := by
  induction k with
  | zero => rfl
  | succ k ih =>
    simp only [roOf] at h
    by_cases e : (sEq (rdAt rs k).pat q && !emp (rdAt rs k).ref && !has (roOf rs q k) (rdAt rs k).ref) = true
    · rw [if_pos e, has_snoc] at h
      simp only [Bool.or_eq_false_iff] at h
      simp [mdl, hu, h.2, ih h.1]
    · rw [if_neg e] at h
      simp only [mdl, hu, Bool.false_or, ih h]
      rw [if_neg]
      intro e2
      simp only [Bool.and_eq_true] at e2
      have e3 := (sEq_iff _ _).1 e2.2
      apply e
      rw [e3, e2.1, h, hu]; rfl
theorem ro_of_not_ord (rs : List RD) (q : ByteArray) (k : Nat) (h : has (ordOf rs k) q = false) : roOf rs q k = [] := by
  induction k with
  | zero => rfl
  | succ k ih =>
    simp only [ordOf] at h
    have h1 : has (ordOf rs k) q = false ∧ sEq (rdAt rs k).pat q = false := by
      by_cases e : has (ordOf rs k) (rdAt rs k).pat = true
      · rw [if_pos e] at h
        refine ⟨h, ?_⟩
        rw [sEq_false]; intro e2; rw [e2] at e; rw [e] at h; cases h
      · rw [if_neg e, has_snoc] at h
        simpa using h
    simp [roOf, h1.2, ih h1.1]
theorem not_emp_of_ro (rs : List RD) (q : ByteArray) (k : Nat) (u : ByteArray) (h : has (roOf rs q k) u = true) : emp u = false := by
  induction k with
  | zero => cases h
  | succ k ih =>
    simp only [roOf] at h
    by_cases e : (sEq (rdAt rs k).pat q && !emp (rdAt rs k).ref && !has (roOf rs q k) (rdAt rs k).ref) = true
    · rw [if_pos e, has_snoc] at h
      rcases Bool.or_eq_true_iff.1 h with h | h
      · exact ih h
      · simp only [Bool.and_eq_true, Bool.not_eq_true'] at e
        rw [← (sEq_iff _ _).1 h]; exact e.1.2
    · rw [if_neg e] at h; exact ih h

/-- What the list at u holds, once u is a reference and not the empty one. -/
def rmdl (rs : List RD) (q u : ByteArray) (k : Nat) : List Int := if emp u then [] else mdl rs q u k
theorem rmdl_le (rs : List RD) (q u : ByteArray) (k : Nat) : (rmdl rs q u k).length ≤ k := by
  unfold rmdl; split
  · simp
  · exact mdl_le _ _ _ _
theorem rmdl_of_not_ro (rs : List RD) (q u : ByteArray) (k : Nat) (h : has (roOf rs q k) u = false) : rmdl rs q u k = [] := by
  unfold rmdl; split
  · rfl
  · exact mdl_of_not_ro _ _ _ _ (by simpa using ‹¬ emp u = true›) h

theorem nodup_ord (rs : List RD) (k : Nat) : (ordOf rs k).Nodup := by
  induction k with
  | zero => simp [ordOf]
  | succ k ih =>
    simp only [ordOf]; split
    · exact ih
    · rename_i h
      rw [has_iff] at h
      rw [List.nodup_append]
      refine ⟨ih, by simp, fun a ha b hb => ?_⟩
      simp at hb; subst hb; intro e; exact h (e ▸ ha)
theorem has_take_succ (l : List ByteArray) (k : Nat) (h : k < l.length) (x : ByteArray) : has (l.take (k + 1)) x = (has (l.take k) x || sEq (strAt l k) x) := by
  rw [List.take_succ_eq_append_getElem h, has_snoc]; simp [strAt, h]
end Go.Proofs.Qxb6630623a
