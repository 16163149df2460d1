namespace Go.Proofs.Qxb6600104a.Pl

/-- Is the byte an ASCII digit? -/
def isD (c : UInt8) : Bool := decide (48 ≤ c.toNat ∧ c.toNat ≤ 57)
/-- One step of reading a number in decimal. -/
def dstep (n : Int) (c : UInt8) : Int := n * 10 + ((c.toNat : Int) - 48)
/-- The number that a list of bytes writes in decimal. -/
def dv (l : List UInt8) : Int := l.foldl dstep 0
/-- Are all bytes digits? -/
def allD (l : List UInt8) : Bool := l.all isD
/-- How many zeros lead. -/
def lz : List UInt8 → Nat
  | [] => 0
  | c :: l => if c.toNat = 48 then lz l + 1 else 0
/-- How many digits lead. -/
def run : List UInt8 → Nat
  | [] => 0
  | c :: l => if isD c then run l + 1 else 0

theorem isD_iff (c : UInt8) : isD c = true ↔ 48 ≤ c.toNat ∧ c.toNat ≤ 57 := by simp [isD]
theorem isD_int (c : UInt8) : isD c = true ↔ 48 ≤ (c.toNat : Int) ∧ (c.toNat : Int) ≤ 57 := by rw [isD_iff]; omega
theorem isD_int_not (c : UInt8) : isD c = false ↔ ((c.toNat : Int) < 48 ∨ 57 < (c.toNat : Int)) := by
  rw [← Bool.not_eq_true, isD_iff]; omega

theorem foldl_shift (l : List UInt8) : ∀ n : Int, l.foldl dstep n = n * 10 ^ l.length + dv l := by
  induction l with
  | nil => intro n; simp [dv]
  | cons c l ih =>
    intro n
    have h1 := ih (dstep n c)
    have h2 := ih (dstep 0 c)
    unfold dv
    simp only [List.foldl_cons, List.length_cons]
    rw [h1, h2]
    unfold dstep
    rw [Int.pow_succ]
    have e : (n * 10 + ((c.toNat : Int) - 48)) * 10 ^ l.length = n * (10 ^ l.length * 10) + ((c.toNat : Int) - 48) * 10 ^ l.length := by
      rw [Int.add_mul, Int.mul_assoc, Int.mul_comm 10 (10 ^ l.length)]
    have e2 : (0 * 10 + ((c.toNat : Int) - 48)) * 10 ^ l.length = ((c.toNat : Int) - 48) * 10 ^ l.length := by
      rw [Int.zero_mul, Int.zero_add]
    rw [e, e2]
    omega

theorem dv_nil : dv [] = 0 := rfl
theorem dv_cons (c : UInt8) (l : List UInt8) : dv (c :: l) = ((c.toNat : Int) - 48) * 10 ^ l.length + dv l := by
  have := foldl_shift l (dstep 0 c)
  unfold dv at *
  rw [List.foldl_cons, this]
  unfold dstep
  simp
theorem dv_snoc (l : List UInt8) (c : UInt8) : dv (l ++ [c]) = dv l * 10 + ((c.toNat : Int) - 48) := by
  unfold dv; rw [List.foldl_append]; rfl
theorem dv_append (l m : List UInt8) : dv (l ++ m) = dv l * 10 ^ m.length + dv m := by
  have h : (l ++ m).foldl dstep 0 = (l.foldl dstep 0) * 10 ^ m.length + dv m := by rw [List.foldl_append, foldl_shift]
  exact h

theorem pow_pos10 (n : Nat) : (0 : Int) < 10 ^ n := Int.pow_pos (by omega)
theorem pow_mono10 {a b : Nat} (h : a ≤ b) : (10 : Int) ^ a ≤ 10 ^ b := by
  obtain ⟨d, rfl⟩ := Nat.exists_eq_add_of_le h
  rw [Int.pow_add]
  have h1 := pow_pos10 a
  have h2 := pow_pos10 d
  have : (10 : Int) ^ a * 1 ≤ 10 ^ a * 10 ^ d := Int.mul_le_mul_of_nonneg_left (by omega) (by omega)
  omega

theorem dv_bd (l : List UInt8) (h : allD l = true) : 0 ≤ dv l ∧ dv l < 10 ^ l.length := by
  induction l with
  | nil => simp [dv]
  | cons c l ih =>
    simp only [allD, List.all_cons, Bool.and_eq_true] at h
    have hc := (isD_int c).1 h.1
    have hl := ih h.2
    rw [dv_cons]
    have hp := pow_pos10 l.length
    have h1 : 0 ≤ ((c.toNat : Int) - 48) * 10 ^ l.length := Int.mul_nonneg (by omega) (by omega)
    have h2 : ((c.toNat : Int) - 48) * 10 ^ l.length ≤ 9 * 10 ^ l.length := Int.mul_le_mul_of_nonneg_right (by omega) (by omega)
    rw [List.length_cons, Int.pow_succ]
    constructor <;> omega

theorem dv_lo (c : UInt8) (l : List UInt8) (h : allD (c :: l) = true) (hc : c.toNat ≠ 48) : 10 ^ l.length ≤ dv (c :: l) := by
  simp only [allD, List.all_cons, Bool.and_eq_true] at h
  have hd := (isD_int c).1 h.1
  have hl := dv_bd l h.2
  rw [dv_cons]
  have hp := pow_pos10 l.length
  have h2 : 1 * 10 ^ l.length ≤ ((c.toNat : Int) - 48) * 10 ^ l.length := Int.mul_le_mul_of_nonneg_right (by omega) (by omega)
  omega

theorem allD_append (l m : List UInt8) : allD (l ++ m) = (allD l && allD m) := by simp [allD]
theorem allD_take (l : List UInt8) (k : Nat) (h : allD l = true) : allD (l.take k) = true := by
  rw [← List.take_append_drop k l, allD_append, Bool.and_eq_true] at h; exact h.1
theorem allD_drop (l : List UInt8) (k : Nat) (h : allD l = true) : allD (l.drop k) = true := by
  rw [← List.take_append_drop k l, allD_append, Bool.and_eq_true] at h; exact h.2

theorem dv_take_le (l : List UInt8) (k : Nat) (h : allD l = true) : dv (l.take k) ≤ dv l := by
  have e : dv l = dv (l.take k) * 10 ^ (l.drop k).length + dv (l.drop k) := by rw [← dv_append, List.take_append_drop]
  have h1 := dv_bd _ (allD_take l k h)
  have h2 := dv_bd _ (allD_drop l k h)
  have hp := pow_pos10 (l.drop k).length
  have : dv (l.take k) * 1 ≤ dv (l.take k) * 10 ^ (l.drop k).length := Int.mul_le_mul_of_nonneg_left (by omega) h1.1
  omega

theorem lz_le (l : List UInt8) : lz l ≤ l.length := by
  induction l with
  | nil => simp [lz]
  | cons c l ih => unfold lz; split <;> simp <;> omega

theorem dv_strip (l : List UInt8) : dv (l.drop (lz l)) = dv l := by
  induction l with
  | nil => rfl
  | cons c l ih =>
    unfold lz
    split
    · rename_i h; rw [List.drop_succ_cons, ih, dv_cons]; simp [h]
    · rfl

/-- After the leading zeros: nothing, or a byte that is no zero. -/
theorem strip_head (l : List UInt8) : l.drop (lz l) = [] ∨ ∃ c m, l.drop (lz l) = c :: m ∧ c.toNat ≠ 48 := by
  induction l with
  | nil => left; rfl
  | cons c l ih =>
    unfold lz
    split
    · rw [List.drop_succ_cons]; exact ih
    · rename_i h; right; exact ⟨c, l, rfl, h⟩

/-- Two lists, byte by byte. -/
def cmpL : List UInt8 → List UInt8 → Int
  | a :: as, b :: bs => if a.toNat < b.toNat then -1 else if b.toNat < a.toNat then 1 else cmpL as bs
  | _, _ => 0
/-- The shorter is the less; of one length: byte by byte. -/
def cmpD (a b : List UInt8) : Int := if a.length < b.length then -1 else if b.length < a.length then 1 else cmpL a b
/-- Two numbers. -/
def sgn (x y : Int) : Int := if x < y then -1 else if y < x then 1 else 0

theorem sgn_add (q x y : Int) : sgn (q + x) (q + y) = sgn x y := by
  unfold sgn
  by_cases c1 : x < y
  · rw [if_pos c1, if_pos (by omega)]
  · rw [if_neg c1, if_neg (show ¬ q + x < q + y by omega)]
    by_cases c2 : y < x
    · rw [if_pos c2, if_pos (by omega)]
    · rw [if_neg c2, if_neg (show ¬ q + y < q + x by omega)]

theorem cmpL_sgn : ∀ (a b : List UInt8), a.length = b.length → allD a = true → allD b = true → cmpL a b = sgn (dv a) (dv b)
  | [], [], _, _, _ => rfl
  | a :: as, b :: bs, hl, ha, hb => by
    simp only [List.length_cons, Nat.add_right_cancel_iff] at hl
    have ha' := ha; have hb' := hb
    simp only [allD, List.all_cons, Bool.and_eq_true] at ha hb
    have ih := cmpL_sgn as bs hl ha.2 hb.2
    have h1 := dv_bd as ha.2
    have h2 := dv_bd bs hb.2
    rw [hl] at h1
    unfold cmpL
    rw [dv_cons, dv_cons, hl]
    have hp := pow_pos10 bs.length
    generalize (10 : Int) ^ bs.length = p at *
    split
    · rename_i h
      unfold sgn
      have : ((a.toNat : Int) - 48) * p + 1 * p ≤ ((b.toNat : Int) - 48) * p := by
        rw [← Int.add_mul]; exact Int.mul_le_mul_of_nonneg_right (by omega) (by omega)
      rw [if_pos (by omega)]
    · split
      · rename_i h1 h
        unfold sgn
        have : ((b.toNat : Int) - 48) * p + 1 * p ≤ ((a.toNat : Int) - 48) * p := by
          rw [← Int.add_mul]; exact Int.mul_le_mul_of_nonneg_right (by omega) (by omega)
        rw [if_neg (by omega), if_pos (by omega)]
      · have e : a.toNat = b.toNat := by omega
        rw [ih, e]
        exact (sgn_add _ _ _).symm

/-- A longer number without leading zeros is the greater. -/
theorem longer (a b : List UInt8) (ha : allD a = true) (hb : allD b = true) (hz : b = [] ∨ ∃ c m, b = c :: m ∧ c.toNat ≠ 48) (h : a.length < b.length) : dv a < dv b := by
  rcases hz with rfl | ⟨c, m, rfl, hc⟩
  · simp at h
  · have h1 := dv_bd a ha
    have h2 := dv_lo c m hb hc
    simp only [List.length_cons] at h
    have : (10 : Int) ^ a.length ≤ 10 ^ m.length := pow_mono10 (by omega)
    omega

theorem cmp_law (a b : List UInt8) (ha : allD a = true) (hb : allD b = true) : cmpD (a.drop (lz a)) (b.drop (lz b)) = sgn (dv a) (dv b) := by
  have ha2 := allD_drop a (lz a) ha
  have hb2 := allD_drop b (lz b) hb
  have za := strip_head a
  have zb := strip_head b
  rw [← dv_strip a, ← dv_strip b]
  generalize a.drop (lz a) = x at *
  generalize b.drop (lz b) = y at *
  unfold cmpD
  split
  · rename_i h; have := longer x y ha2 hb2 zb h; unfold sgn; rw [if_pos this]
  · split
    · rename_i h; have := longer y x hb2 ha2 za h; unfold sgn; rw [if_neg (by omega), if_pos this]
    · exact cmpL_sgn x y (by omega) ha2 hb2

/-- At most 18 digits behind the zeros: below 10^18. -/
theorem dv_small (l : List UInt8) (h : allD l = true) (hs : l.length - lz l ≤ 18) : dv l < 1000000000000000000 := by
  rw [← dv_strip]
  have := (dv_bd _ (allD_drop l (lz l) h)).2
  have h2 : (10 : Int) ^ (l.drop (lz l)).length ≤ 10 ^ 18 := pow_mono10 (by simp; omega)
  have h3 : (10 : Int) ^ 18 = 1000000000000000000 := by decide
  omega
theorem dv_short (l : List UInt8) (h : allD l = true) (hs : l.length ≤ 18) : dv l < 1000000000000000000 :=
  dv_small l h (by omega)
end Go.Proofs.Qxb6600104a.Pl
