/-
  Plain mathematics for zzExponentModel: the first significant digit, the digits between two places, how many digits a limit has.
-/
import Derived.Test.Qxb6601621aExp
namespace Go.Proofs.Qxb6601621a
open Go.RowKit
open Pl
set_option linter.unusedVariables false

theorem lz_zero (l : List UInt8) : ∀ i (h : i < lz l), (l[i]'(Nat.lt_of_lt_of_le h (lz_le l))).toNat = 48 := by
  induction l with
  | nil => intro i h; simp [lz] at h
  | cons c l ih =>
    intro i h
    unfold lz at h
    split at h
    · rename_i hc
      cases i with
      | zero => exact hc
      | succ i => exact ih i (by omega)
    · omega
theorem lz_stop (l : List UInt8) (h : lz l < l.length) : (l[lz l]).toNat ≠ 48 := by
  induction l with
  | nil => simp at h
  | cons c l ih =>
    by_cases hc : c.toNat = 48
    · have e : lz (c :: l) = lz l + 1 := by simp [lz, hc]
      have h' : lz l < l.length := by rw [e] at h; simpa using h
      have := ih h'
      simp only [e, List.getElem_cons_succ]
      exact this
    · have e : lz (c :: l) = 0 := by simp [lz, hc]
      simp only [e, List.getElem_cons_zero]
      exact hc

theorem byte_at (s : ByteArray) (i : Nat) (h : i < s.size) : s[i] = s.data.toList[i]'(by simpa using h) := rfl

/-- The place of the first significant digit from st on, or the end. -/
theorem firstOf (s : ByteArray) (st : Nat) (hst : st ≤ s.size) : ∃ f, st ≤ f ∧ f ≤ s.size ∧ (∀ i (h : i < s.size), st ≤ i → i < f → s[i].toNat = 48) ∧ (∀ h : f < s.size, s[f].toNat ≠ 48) ∧ dv (s.data.toList.drop f) = dv (s.data.toList.drop st) := by
  have hlen : (s.data.toList.drop st).length = s.size - st := by simp
  have hle := lz_le (s.data.toList.drop st)
  refine ⟨st + lz (s.data.toList.drop st), by omega, by omega, fun i h h1 h2 => ?_, fun h => ?_, ?_⟩
  · have := lz_zero (s.data.toList.drop st) (i - st) (by omega)
    rw [List.getElem_drop] at this
    rw [byte_at s i h]
    have e : st + (i - st) = i := by omega
    simp only [e] at this
    exact this
  · have := lz_stop (s.data.toList.drop st) (by omega)
    rw [List.getElem_drop] at this
    exact this
  · have := dv_strip (s.data.toList.drop st)
    rw [List.drop_drop] at this
    exact this

/-- The number that the digits from a up to b write. -/
def dvr (s : ByteArray) (a b : Nat) : Int := dv ((s.data.toList.drop a).take (b - a))
theorem dvr_start (s : ByteArray) (a : Nat) : dvr s a a = 0 := by unfold dvr; rw [Nat.sub_self]; rfl
theorem dvr_end (s : ByteArray) (a : Nat) : dvr s a s.size = dv (s.data.toList.drop a) := by
  unfold dvr; rw [List.take_of_length_le (by simp)]
theorem dvr_succ (s : ByteArray) (a k : Nat) (h : k < s.size) (ha : a ≤ k) : dvr s a (k + 1) = dvr s a k * 10 + ((s[k].toNat : Int) - 48) := by
  unfold dvr
  have e : k + 1 - a = k - a + 1 := by omega
  rw [e, List.take_succ_eq_append_getElem (by simp; omega), dv_snoc, List.getElem_drop]
  have e2 : a + (k - a) = k := by omega
  simp only [e2]
  rfl
theorem allD_drop_at (s : ByteArray) (st i : Nat) (h : i < s.size) (hst : st ≤ i) (ha : allD (s.data.toList.drop st) = true) : isD s[i] = true := by
  unfold allD at ha
  rw [List.all_eq_true] at ha
  apply ha
  have e : s[i] = (s.data.toList.drop st)[i - st]'(by simp; omega) := by
    rw [List.getElem_drop]
    have e2 : st + (i - st) = i := by omega
    simp only [e2]
    rfl
  rw [e]
  exact List.getElem_mem _
theorem allD_later (s : ByteArray) (st f : Nat) (h : st ≤ f) (ha : allD (s.data.toList.drop st) = true) : allD (s.data.toList.drop f) = true := by
  have := allD_drop _ (f - st) ha
  rw [List.drop_drop] at this
  have e : st + (f - st) = f := by omega
  rwa [e] at this
theorem dvr_bd (s : ByteArray) (a k : Nat) (hk : k ≤ s.size) (h18 : s.size - a ≤ 18) (ha : allD (s.data.toList.drop a) = true) : 0 ≤ dvr s a k ∧ dvr s a k < 1000000000000000000 := by
  have h1 := (dv_bd _ (allD_take _ (k - a) ha)).1
  have h2 := dv_short _ (allD_take _ (k - a) ha) (by simp; omega)
  exact ⟨h1, h2⟩

/-- More significant digits than the limit has: the value is beyond the limit. -/
theorem dv_beyond (s : ByteArray) (f nd : Nat) (L : Int) (hf : f < s.size) (hz : s[f].toNat ≠ 48) (ha : allD (s.data.toList.drop f) = true) (hc : nd < s.size - f) (hL : L < p10 nd) : L ≤ dv (s.data.toList.drop f) := by
  have e : s.data.toList.drop f = s[f] :: s.data.toList.drop (f + 1) := by
    rw [List.drop_eq_getElem_cons (by simpa using hf)]; rfl
  rw [e] at ha ⊢
  have h1 := dv_lo _ _ ha hz
  have h2 : (s.data.toList.drop (f + 1)).length = s.size - (f + 1) := by simp
  rw [h2, ← p10_pow] at h1
  have h3 := p10_mono (show nd ≤ s.size - (f + 1) by omega)
  omega

/-- v is what is left of L behind j divisions by ten. -/
structure Dc (L v : Int) (j : Nat) : Prop where
  lo : v * p10 j ≤ L
  hi : L < (v + 1) * p10 j
  pos : j = 0 ∨ 1 ≤ v
theorem Dc.start (L : Int) : Dc L L 0 := ⟨by simp [p10], by simp [p10]; omega, .inl rfl⟩
theorem Dc.step {L v : Int} {j : Nat} (h : Dc L v j) (hv : 10 ≤ v) : Dc L (v / 10) (j + 1) := by
  have hp := p10_pos j
  have e : p10 (j + 1) = 10 * p10 j := by show p10 j * 10 = _; rw [Int.mul_comm]
  refine ⟨?_, ?_, .inr (by omega)⟩
  · have : (v / 10 * 10) * p10 j ≤ v * p10 j := Int.mul_le_mul_of_nonneg_right (by omega) (by omega)
    rw [e, ← Int.mul_assoc]
    have := h.lo
    omega
  · have : (v + 1) * p10 j ≤ ((v / 10 + 1) * 10) * p10 j := Int.mul_le_mul_of_nonneg_right (by omega) (by omega)
    rw [e, ← Int.mul_assoc]
    have := h.hi
    omega
theorem Dc.few {L v : Int} {j : Nat} (h : Dc L v j) (hL : L < 1000000000000000000) : j < 18 := by
  rcases h.pos with h0 | h0
  · omega
  · have hp := p10_pos j
    have h1 : 1 * p10 j ≤ v * p10 j := Int.mul_le_mul_of_nonneg_right h0 (by omega)
    have h2 := h.lo
    rcases Nat.lt_or_ge j 18 with g | g
    · exact g
    · have h3 := p10_mono g
      have e : p10 18 = 1000000000000000000 := rfl
      omega
theorem Dc.done {L v : Int} {j : Nat} (h : Dc L v j) (hv : v < 10) : L < p10 (j + 1) := by
  have hp := p10_pos j
  have h1 : (v + 1) * p10 j ≤ 10 * p10 j := Int.mul_le_mul_of_nonneg_right (by omega) (by omega)
  have e : p10 (j + 1) = 10 * p10 j := by show p10 j * 10 = _; rw [Int.mul_comm]
  have := h.hi
  omega

/-! zzDigitCount (15). -/
set_option maxHeartbeats 400000 in
theorem count_any (L : Int) (w : World) (h0 : 0 ≤ L) (hL : L ≤ 922337203685477579) :
    Calls Try.prog 15 #[.int .i64 L] w fun e w' => (∃ nd : Nat, e = .returned (.int .i64 (nd : Int)) ∧ Hid (L < p10 nd) ∧ 1 ≤ nd ∧ nd ≤ 18) ∧ w' = w := by
  go_enter Try.func15, Try.ntmps15
  go_wp2
  go_loop [0, 3] (fun a n => ∃ (v : Int) (j : Nat), a = .int .i64 v ∧ n = .int .i64 ((j + 1 : Nat) : Int) ∧ 0 ≤ v ∧ v ≤ L ∧ Hid (Dc L v j)) (fun a _ => (intOf a).toNat)
  case atStart => exact ⟨L, 0, rfl, rfl, h0, Int.le_refl _, Dc.start L⟩
  case round =>
    obtain ⟨v, j, rfl, rfl, hv0, hvL, hd⟩ := hrel
    have hj := hd.out.few (by omega)
    by_cases hv : 10 ≤ v
    · have HS : Hid (Dc L (v / 10) (j + 1)) := hd.out.step hv
      clear hd
      go_wp2
      go_round
      case rel => exact ⟨v / 10, j + 1, rfl, by go_num, by omega, by omega, HS⟩
      case measure => simp [intOf]; omega
    · have HS : Hid (L < p10 (j + 1)) := hd.out.done (by omega)
      clear hd
      go_wp2
      go_ret
      exact ⟨⟨j + 1, rfl, HS, by omega, by omega⟩, rfl⟩
end Go.Proofs.Qxb6601621a
