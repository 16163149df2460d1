/-
  Plain mathematics: the bytes that names, currency codes and ids are made of.
-/
namespace Go.Proofs.Qxb6600171a.Pl

def dgB (c : Int) : Bool := decide (48 ≤ c ∧ c ≤ 57)
def upB (c : Int) : Bool := decide (65 ≤ c ∧ c ≤ 90)
def loB (c : Int) : Bool := decide (97 ≤ c ∧ c ≤ 122)
def leB (c : Int) : Bool := upB c || loB c
/-- A byte that a name may hold. -/
def nmB (c : Int) : Bool := leB c || dgB c || decide (c = 58 ∨ c = 45 ∨ c = 95 ∨ c = 46)
/-- A byte that a currency code may hold. -/
def cuB (c : Int) : Bool := upB c || dgB c

theorem dgB_iff (c : Int) : dgB c = true ↔ 48 ≤ c ∧ c ≤ 57 := by simp [dgB]
theorem upB_iff (c : Int) : upB c = true ↔ 65 ≤ c ∧ c ≤ 90 := by simp [upB]
theorem loB_iff (c : Int) : loB c = true ↔ 97 ≤ c ∧ c ≤ 122 := by simp [loB]
theorem leB_iff (c : Int) : leB c = true ↔ (65 ≤ c ∧ c ≤ 90) ∨ (97 ≤ c ∧ c ≤ 122) := by simp [leB, upB, loB]
theorem nmB_iff (c : Int) : nmB c = true ↔ (65 ≤ c ∧ c ≤ 90) ∨ (97 ≤ c ∧ c ≤ 122) ∨ (48 ≤ c ∧ c ≤ 57) ∨ c = 58 ∨ c = 45 ∨ c = 95 ∨ c = 46 := by
  simp [nmB, leB, upB, loB, dgB]; omega
theorem cuB_iff (c : Int) : cuB c = true ↔ (65 ≤ c ∧ c ≤ 90) ∨ (48 ≤ c ∧ c ≤ 57) := by simp [cuB, upB, dgB]
theorem dgB_no (c : Int) : dgB c = false ↔ ¬ (48 ≤ c ∧ c ≤ 57) := by rw [← Bool.not_eq_true, dgB_iff]
theorem upB_no (c : Int) : upB c = false ↔ ¬ (65 ≤ c ∧ c ≤ 90) := by rw [← Bool.not_eq_true, upB_iff]
theorem leB_no (c : Int) : leB c = false ↔ ¬ ((65 ≤ c ∧ c ≤ 90) ∨ (97 ≤ c ∧ c ≤ 122)) := by rw [← Bool.not_eq_true, leB_iff]

/-- The bytes of a list, by their places. -/
def zOf (bs : List UInt8) (i : Nat) : Int := ((bs.getD i 0).toNat : Int)
theorem zOf_at (bs : List UInt8) (i : Nat) (h : i < bs.length) : zOf bs i = (bs[i].toNat : Int) := by
  simp [zOf, List.getD, List.getElem?_eq_getElem h]

/-- All of the first n bytes meet p. -/
def allZ (p : Int → Bool) (z : Nat → Int) : Nat → Bool
  | 0 => true
  | k + 1 => allZ p z k && p (z k)
theorem allZ_iff (p : Int → Bool) (z : Nat → Int) : ∀ n, allZ p z n = true ↔ ∀ i, i < n → p (z i) = true
  | 0 => by simp [allZ]
  | n + 1 => by
    simp only [allZ, Bool.and_eq_true, allZ_iff p z n]
    constructor
    · intro ⟨h1, h2⟩ i hi
      rcases Nat.lt_or_ge i n with h | h
      · exact h1 i h
      · have e : i = n := by omega
        rw [e]; exact h2
    · intro h
      exact ⟨fun i hi => h i (by omega), h n (by omega)⟩
theorem allZ_no (p : Int → Bool) (z : Nat → Int) (n k : Nat) (h : k < n) (hk : p (z k) = false) : allZ p z n = false := by
  rw [← Bool.not_eq_true, allZ_iff]
  intro g
  rw [g k h] at hk
  cases hk

/-- What a name is. -/
def nameB (bs : List UInt8) : Bool := decide (1 ≤ bs.length ∧ bs.length ≤ 200) && !(bs == [46]) && !(bs == [46, 46]) && allZ nmB (zOf bs) bs.length
/-- What a currency code is. -/
def curB (bs : List UInt8) : Bool := decide (1 ≤ bs.length ∧ bs.length ≤ 12) && upB (zOf bs 0) && allZ cuB (zOf bs) bs.length
end Go.Proofs.Qxb6600171a.Pl
