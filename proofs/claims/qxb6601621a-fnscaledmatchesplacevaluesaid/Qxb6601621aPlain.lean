/-
  Plain mathematics: numbers written in decimal; powers of ten.
-/
namespace Go.Proofs.Qxb6601621a.Pl
set_option linter.unusedVariables false

/-- Is the byte an ASCII digit? -/
def isD (c : UInt8) : Bool := decide (48 ≤ c.toNat ∧ c.toNat ≤ 57)
/-- One step of reading a number in decimal. -/
def dstep (n : Int) (c : UInt8) : Int := n * 10 + ((c.toNat : Int) - 48)
/-- The number that a list of bytes writes in decimal. -/
def dv (l : List UInt8) : Int := l.foldl dstep 0
/-- Are all bytes digits? -/
def allD (l : List UInt8) : Bool := l.all isD
/-- How many zeros lead. -/
def lz : List UInt8 → Nat
  | [] => 0
  | c :: l => if c.toNat = 48 then lz l + 1 else 0
/-- How many digits lead. -/
def run : List UInt8 → Nat
  | [] => 0
  | c :: l => if isD c then run l + 1 else 0

theorem isD_iff (c : UInt8) : isD c = true ↔ 48 ≤ c.toNat ∧ c.toNat ≤ 57 := by simp [isD]
theorem isD_int (c : UInt8) : isD c = true ↔ 48 ≤ (c.toNat : Int) ∧ (c.toNat : Int) ≤ 57 := by rw [isD_iff]; omega
theorem isD_int_not (c : UInt8) : isD c = false ↔ ((c.toNat : Int) < 48 ∨ 57 < (c.toNat : Int)) := by
  rw [← Bool.not_eq_true, isD_iff]; omega

theorem foldl_shift (l : List UInt8) : ∀ n : Int, l.foldl dstep n = n * 10 ^ l.length + dv l := by
  induction l with
  | nil => intro n; simp [dv]
  | cons c l ih =>
    intro n
    have h1 := ih (dstep n c)
    have h2 := ih (dstep 0 c)
    unfold dv
    simp only [List.foldl_cons, List.length_cons]
    rw [h1, h2]
    unfold dstep
    rw [Int.pow_succ]
    have e : (n * 10 + ((c.toNat : Int) - 48)) * 10 ^ l.length = n * (10 ^ l.length * 10) + ((c.toNat : Int) - 48) * 10 ^ l.length := by
      rw [Int.add_mul, Int.mul_assoc, Int.mul_comm 10 (10 ^ l.length)]
    have e2 : (0 * 10 + ((c.toNat : Int) - 48)) * 10 ^ l.length = ((c.toNat : Int) - 48) * 10 ^ l.length := by
      rw [Int.zero_mul, Int.zero_add]
    rw [e, e2]
    omega

theorem dv_nil : dv [] = 0 := rfl
theorem dv_cons (c : UInt8) (l : List UInt8) : dv (c :: l) = ((c.toNat : Int) - 48) * 10 ^ l.length + dv l := by
  have := foldl_shift l (dstep 0 c)
  unfold dv at *
  rw [List.foldl_cons, this]
  unfold dstep
  simp
theorem dv_snoc (l : List UInt8) (c : UInt8) : dv (l ++ [c]) = dv l * 10 + ((c.toNat : Int) - 48) := by
  unfold dv; rw [List.foldl_append]; rfl
theorem dv_append (l m : List UInt8) : dv (l ++ m) = dv l * 10 ^ m.length + dv m := by
  have h : (l ++ m).foldl dstep 0 = (l.foldl dstep 0) * 10 ^ m.length + dv m := by rw [List.foldl_append, foldl_shift]
  exact h

theorem pow_pos10 (n : Nat) : (0 : Int) < 10 ^ n := Int.pow_pos (by omega)
theorem pow_mono10 {a b : Nat} (h : a ≤ b) : (10 : Int) ^ a ≤ 10 ^ b := by
  obtain ⟨d, rfl⟩ := Nat.exists_eq_add_of_le h
  rw [Int.pow_add]
  have h1 := pow_pos10 a
  have h2 := pow_pos10 d
  have : (10 : Int) ^ a * 1 ≤ 10 ^ a * 10 ^ d := Int.mul_le_mul_of_nonneg_left (by omega) (by omega)
  omega

theorem dv_bd (l : List UInt8) (h : allD l = true) : 0 ≤ dv l ∧ dv l < 10 ^ l.length := by
  induction l with
  | nil => simp [dv]
  | cons c l ih =>
    simp only [allD, List.all_cons, Bool.and_eq_true] at h
    have hc := (isD_int c).1 h.1
    have hl := ih h.2
    rw [dv_cons]
    have hp := pow_pos10 l.length
    have h1 : 0 ≤ ((c.toNat : Int) - 48) * 10 ^ l.length := Int.mul_nonneg (by omega) (by omega)
    have h2 : ((c.toNat : Int) - 48) * 10 ^ l.length ≤ 9 * 10 ^ l.length := Int.mul_le_mul_of_nonneg_right (by omega) (by omega)
    rw [List.length_cons, Int.pow_succ]
    constructor <;> omega

theorem dv_lo (c : UInt8) (l : List UInt8) (h : allD (c :: l) = true) (hc : c.toNat ≠ 48) : 10 ^ l.length ≤ dv (c :: l) := by
  simp only [allD, List.all_cons, Bool.and_eq_true] at h
  have hd := (isD_int c).1 h.1
  have hl := dv_bd l h.2
  rw [dv_cons]
  have hp := pow_pos10 l.length
  have h2 : 1 * 10 ^ l.length ≤ ((c.toNat : Int) - 48) * 10 ^ l.length := Int.mul_le_mul_of_nonneg_right (by omega) (by omega)
  omega

theorem allD_append (l m : List UInt8) : allD (l ++ m) = (allD l && allD m) := by simp [allD]
theorem allD_take (l : List UInt8) (k : Nat) (h : allD l = true) : allD (l.take k) = true := by
  rw [← List.take_append_drop k l, allD_append, Bool.and_eq_true] at h; exact h.1
theorem allD_drop (l : List UInt8) (k : Nat) (h : allD l = true) : allD (l.drop k) = true := by
  rw [← List.take_append_drop k l, allD_append, Bool.and_eq_true] at h; exact h.2

theorem dv_take_le (l : List UInt8) (k : Nat) (h : allD l = true) : dv (l.take k) ≤ dv l := by
  have e : dv l = dv (l.take k) * 10 ^ (l.drop k).length + dv (l.drop k) := by rw [← dv_append, List.take_append_drop]
  have h1 := dv_bd _ (allD_take l k h)
  have h2 := dv_bd _ (allD_drop l k h)
  have hp := pow_pos10 (l.drop k).length
  have : dv (l.take k) * 1 ≤ dv (l.take k) * 10 ^ (l.drop k).length := Int.mul_le_mul_of_nonneg_left (by omega) h1.1
  omega

theorem lz_le (l : List UInt8) : lz l ≤ l.length := by
  induction l with
  | nil => simp [lz]
  | cons c l ih => unfold lz; split <;> simp <;> omega

theorem dv_strip (l : List UInt8) : dv (l.drop (lz l)) = dv l := by
  induction l with
  | nil => rfl
  | cons c l ih =>
    unfold lz
    split
    · rename_i h; rw [List.drop_succ_cons, ih, dv_cons]; simp [h]
    · rfl

/-- After the leading zeros: nothing, or a byte that is no zero. -/
theorem strip_head (l : List UInt8) : l.drop (lz l) = [] ∨ ∃ c m, l.drop (lz l) = c :: m ∧ c.toNat ≠ 48 := by
  induction l with
  | nil => left; rfl
  | cons c l ih =>
    unfold lz
    split
    · rw [List.drop_succ_cons]; exact ih
    · rename_i h; right; exact ⟨c, l, rfl, h⟩

/-- At most 18 digits behind the zeros: below 10^18. -/
theorem dv_small (l : List UInt8) (h : allD l = true) (hs : l.length - lz l ≤ 18) : dv l < 1000000000000000000 := by
  rw [← dv_strip]
  have := (dv_bd _ (allD_drop l (lz l) h)).2
  have h2 : (10 : Int) ^ (l.drop (lz l)).length ≤ 10 ^ 18 := pow_mono10 (by simp; omega)
  have h3 : (10 : Int) ^ 18 = 1000000000000000000 := by decide
  omega
theorem dv_short (l : List UInt8) (h : allD l = true) (hs : l.length ≤ 18) : dv l < 1000000000000000000 :=
  dv_small l h (by omega)

/-- Powers of ten. -/
def p10 : Nat → Int
  | 0 => 1
  | k + 1 => p10 k * 10
theorem p10_pow (k : Nat) : p10 k = 10 ^ k := by
  induction k with
  | zero => rfl
  | succ k ih => rw [Int.pow_succ, ← ih]; rfl
theorem p10_pos (k : Nat) : 1 ≤ p10 k := by rw [p10_pow]; have := pow_pos10 k; omega
theorem p10_mono {a b : Nat} (h : a ≤ b) : p10 a ≤ p10 b := by rw [p10_pow, p10_pow]; exact pow_mono10 h
theorem p10_add (a b : Nat) : p10 (a + b) = p10 a * p10 b := by rw [p10_pow, p10_pow, p10_pow, Int.pow_add]
theorem p10_five (k : Nat) (h : k ≤ 5) : p10 k ≤ 100000 := by have := p10_mono h; have e : p10 5 = 100000 := rfl; omega

/-- The value of n digits followed by p zeros lies below 10^(n+p). -/
theorem dv_p10 (l : List UInt8) (p : Nat) (h : allD l = true) : 0 ≤ dv l * p10 p ∧ dv l * p10 p < p10 (l.length + p) := by
  have hb := dv_bd l h
  have hp := p10_pos p
  rw [p10_add, p10_pow l.length]
  exact ⟨Int.mul_nonneg hb.1 (by omega), Int.mul_lt_mul_of_pos_right hb.2 (by omega)⟩
theorem dv_p10_small (l : List UInt8) (p : Nat) (h : allD l = true) (hs : l.length + p ≤ 5) : 0 ≤ dv l * p10 p ∧ dv l * p10 p < 100000 := by
  have h1 := dv_p10 l p h
  have h2 := p10_five _ hs
  omega
/-- A beginning, brought to its place, is no more than the whole. -/
theorem dv_part (l : List UInt8) (k p : Nat) (h : allD l = true) (hk : k ≤ l.length) : 0 ≤ dv (l.take k) * p10 (l.length - k + p) ∧ dv (l.take k) * p10 (l.length - k + p) ≤ dv l * p10 p := by
  have h1 := (dv_bd _ (allD_take l k h)).1
  have h2 := (dv_bd _ (allD_drop l k h)).1
  have hp := p10_pos p
  have hq := p10_pos (l.length - k + p)
  refine ⟨Int.mul_nonneg h1 (by omega), ?_⟩
  have e : dv l = dv (l.take k) * 10 ^ (l.drop k).length + dv (l.drop k) := by rw [← dv_append, List.take_append_drop]
  rw [p10_add, ← Int.mul_assoc, p10_pow (l.length - k)]
  have e2 : (l.drop k).length = l.length - k := by simp
  rw [e2] at e
  exact Int.mul_le_mul_of_nonneg_right (by omega) (by omega)
theorem dv_next (l : List UInt8) (k p : Nat) (hk : k < l.length) : dv (l.take (k + 1)) * p10 (l.length - (k + 1) + p) = dv (l.take k) * p10 (l.length - k + p) + (((l[k]).toNat : Int) - 48) * p10 (l.length - (k + 1) + p) := by
  rw [List.take_succ_eq_append_getElem hk, dv_snoc, Int.add_mul]
  have e : l.length - k + p = (l.length - (k + 1) + p) + 1 := by omega
  rw [e]
  have e2 : p10 (l.length - (k + 1) + p + 1) = p10 (l.length - (k + 1) + p) * 10 := rfl
  rw [e2, Int.mul_assoc, Int.mul_comm 10]
theorem dv_nextN (l : List UInt8) (n k p : Nat) (hn : l.length = n) (hk : k < l.length) : dv (l.take (k + 1)) * p10 (n - (k + 1) + p) = dv (l.take k) * p10 (n - k + p) + (((l[k]).toNat : Int) - 48) * p10 (n - (k + 1) + p) := by
  subst hn; exact dv_next l k p hk
end Go.Proofs.Qxb6601621a.Pl
