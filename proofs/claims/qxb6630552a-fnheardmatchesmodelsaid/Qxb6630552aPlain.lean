import Derived.WalkKit
import Derived.WalkSpells
/- PLAIN: searches by index; no program. -/
namespace Go.Proofs.Qxb6630552a


/-- The first j < n with p j, or -1. -/
def firstAt (p : Nat → Bool) (n : Nat) : Int := match (List.range n).find? p with | some i => i | none => -1

/-- The last j < n with p j, or -1. -/
def lastAt (p : Nat → Bool) : Nat → Int
  | 0 => -1
  | n + 1 => if p n then n else lastAt p n

theorem firstAt_hit (p : Nat → Bool) (n k : Nat) (hk : k < n) (hp : p k = true) (hno : ∀ j, j < k → p j = false) : firstAt p n = k := by
  have : (List.range n).find? p = some k := by
    rw [List.find?_range_eq_some]
    exact ⟨hp, by simpa using hk, fun j hj => by simp [hno j hj]⟩
  simp [firstAt, this]

theorem firstAt_miss (p : Nat → Bool) (n : Nat) (hno : ∀ j, j < n → p j = false) : firstAt p n = -1 := by
  have : (List.range n).find? p = none := by
    rw [List.find?_eq_none]
    intro x hx
    simp at hx
    simp [hno x hx]
  simp [firstAt, this]

theorem firstAt_cases (p : Nat → Bool) (n : Nat) : (∃ k, k < n ∧ p k = true ∧ (∀ j, j < k → p j = false) ∧ firstAt p n = k) ∨ ((∀ j, j < n → p j = false) ∧ firstAt p n = -1) := by
  cases h : (List.range n).find? p with
  | none =>
    right
    rw [List.find?_eq_none] at h
    have hno : ∀ j, j < n → p j = false := fun j hj => by simpa using h j (by simpa using hj)
    exact ⟨hno, firstAt_miss p n hno⟩
  | some k =>
    left
    rw [List.find?_range_eq_some] at h
    obtain ⟨h1, h2, h3⟩ := h
    have hno : ∀ j, j < k → p j = false := fun j hj => by simpa using h3 j hj
    exact ⟨k, by simpa using h2, h1, hno, firstAt_hit p n k (by simpa using h2) h1 hno⟩

theorem lastAt_cases (p : Nat → Bool) (n : Nat) : (∃ k, k < n ∧ p k = true ∧ (∀ j, k < j → j < n → p j = false) ∧ lastAt p n = k) ∨ ((∀ j, j < n → p j = false) ∧ lastAt p n = -1) := by
  induction n with
  | zero => right; exact ⟨fun j hj => by omega, rfl⟩
  | succ n ih =>
    by_cases h : p n = true
    · left; exact ⟨n, by omega, h, fun j h1 h2 => by omega, by simp [lastAt, h]⟩
    · have h' : p n = false := by simpa using h
      rcases ih with ⟨k, h1, h2, h3, h4⟩ | ⟨h1, h2⟩
      · left; refine ⟨k, by omega, h2, fun j hj1 hj2 => ?_, by simp [lastAt, h', h4]⟩
        by_cases e : j = n
        · rw [e]; exact h'
        · exact h3 j hj1 (by omega)
      · right; refine ⟨fun j hj => ?_, by simp [lastAt, h', h2]⟩
        by_cases e : j = n
        · rw [e]; exact h'
        · exact h1 j (by omega)

theorem lastAt_succ_hit (p : Nat → Bool) (n : Nat) (h : p n = true) : lastAt p (n + 1) = n := by simp [lastAt, h]
theorem lastAt_succ_miss (p : Nat → Bool) (n : Nat) (h : p n = false) : lastAt p (n + 1) = lastAt p n := by simp [lastAt, h]

def sEq (a b : ByteArray) : Bool := a.toList == b.toList
theorem sEq_iff (a b : ByteArray) : sEq a b = true ↔ a = b := by
  unfold sEq
  rw [beq_iff_eq, ByteArray.toList_eq, ByteArray.toList_eq]
  obtain ⟨⟨x⟩⟩ := a
  obtain ⟨⟨y⟩⟩ := b
  simp
theorem sEq_false (a b : ByteArray) : sEq a b = false ↔ a ≠ b := by
  rw [ne_eq, ← sEq_iff]; simp

/-- How many j < n have p j. -/
def countTo (p : Nat → Bool) : Nat → Nat
  | 0 => 0
  | n + 1 => if p n then countTo p n + 1 else countTo p n
theorem countTo_le (p : Nat → Bool) (n : Nat) : countTo p n ≤ n := by
  induction n with
  | zero => exact Nat.le_refl _
  | succ n ih => unfold countTo; split <;> omega

structure ND where
  addr : ByteArray
  seen : Int
  rep : Int
  reping : Int
  dis : Bool
  oa : Option Addr
  ocap : Nat
  old : List ByteArray

structure HD where
  addr : ByteArray
  ago : Int

def nd0 : ND := { addr := ByteArray.empty, seen := 0, rep := 0, reping := 0, dis := false, oa := none, ocap := 0, old := [] }
def hd0 : HD := { addr := ByteArray.empty, ago := 0 }
def strAt (l : List ByteArray) (k : Nat) : ByteArray := l.getD k ByteArray.empty
def ndAt (l : List ND) (k : Nat) : ND := l.getD k nd0
def hdAt (l : List HD) (k : Nat) : HD := l.getD k hd0
def lastNode (ns : List ND) (a : ByteArray) : Int := lastAt (fun j => sEq (ndAt ns j).addr a) ns.length
def lastHeard (hs : List HD) (a : ByteArray) : Int := lastAt (fun j => sEq (hdAt hs j).addr a) hs.length
def indexStr (ss : List ByteArray) (x : ByteArray) : Int := firstAt (fun j => sEq (strAt ss j) x) ss.length
def distinctNodes (ns : List ND) : Nat := countTo (fun i => lastNode ns (ndAt ns i).addr == (i : Int)) ns.length
def vouched (now ago : Int) : Int := now - max ago 0
end Go.Proofs.Qxb6630552a
