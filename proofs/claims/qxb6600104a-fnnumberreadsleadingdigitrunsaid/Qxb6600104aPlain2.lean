/-
  Plain mathematics: writing a number in decimal from its end.
-/
import Derived.Test.Qxb6600104aPlain
namespace Go.Proofs.Qxb6600104a.Pl

/-- L is the end of v0's decimal text; v is what is left to write. -/
structure Wr (v0 v : Int) (L : List UInt8) : Prop where
  dig : allD L = true
  pos : 0 ≤ v
  val : v * 10 ^ L.length + dv L = v0
  head : v = 0 → ∃ c t, L = c :: t ∧ c.toNat ≠ 48

/-- The byte of the digit d. -/
def dbyte (v : Int) : UInt8 := UInt8.ofNat (48 + (v % 10).toNat)
theorem dbyte_toNat (v : Int) : ((dbyte v).toNat : Int) = 48 + v % 10 := by
  have h1 : 0 ≤ v % 10 := Int.emod_nonneg _ (by omega)
  have h2 : v % 10 < 10 := Int.emod_lt_of_pos _ (by omega)
  unfold dbyte
  rw [UInt8.toNat_ofNat']
  have : (48 + (v % 10).toNat) % 2 ^ 8 = 48 + (v % 10).toNat := Nat.mod_eq_of_lt (by omega)
  rw [this]
  omega

theorem Wr.start (v0 : Int) (h : 0 < v0) : Wr v0 v0 [] := ⟨rfl, by omega, by simp [dv], fun h0 => by omega⟩

theorem Wr.step {v0 v : Int} {L : List UInt8} (h : Wr v0 v L) (hv : 0 < v) : Wr v0 (v / 10) (dbyte v :: L) := by
  have hb := dbyte_toNat v
  have h1 : 0 ≤ v % 10 := Int.emod_nonneg _ (by omega)
  have h2 : v % 10 < 10 := Int.emod_lt_of_pos _ (by omega)
  refine ⟨?_, by omega, ?_, ?_⟩
  · simp only [allD, List.all_cons, Bool.and_eq_true]
    exact ⟨(isD_int _).2 (by omega), h.dig⟩
  · rw [dv_cons, List.length_cons, Int.pow_succ, hb]
    have hv' := h.val
    have e : v = v / 10 * 10 + v % 10 := by omega
    have e2 : v * 10 ^ L.length = v / 10 * (10 ^ L.length * 10) + (48 + v % 10 - 48) * 10 ^ L.length := by
      have e3 : (48 + v % 10 - 48) = v % 10 := by omega
      rw [e3, Int.mul_comm (10 ^ L.length) 10, ← Int.mul_assoc, ← Int.add_mul, ← e]
    omega
  · intro h0
    exact ⟨_, _, rfl, by omega⟩

theorem Wr.short {v0 v : Int} {L : List UInt8} (h : Wr v0 v L) (hv : 0 < v) (h18 : v0 < 1000000000000000000) : L.length < 18 := by
  have hd := (dv_bd _ h.dig).1
  have hv' := h.val
  have hp := pow_pos10 L.length
  have : 1 * 10 ^ L.length ≤ v * 10 ^ L.length := Int.mul_le_mul_of_nonneg_right (by omega) (by omega)
  have hlt : (10 : Int) ^ L.length < 10 ^ 18 := by
    have h3 : (10 : Int) ^ 18 = 1000000000000000000 := by decide
    omega
  rcases Nat.lt_or_ge L.length 18 with h | h
  · exact h
  · have := pow_mono10 h; omega

theorem Wr.done {v0 : Int} {L : List UInt8} (h : Wr v0 0 L) (h18 : v0 < 1000000000000000000) : dv L = v0 ∧ allD L = true ∧ 1 ≤ L.length ∧ L.length ≤ 18 ∧ ∃ c t, L = c :: t ∧ c.toNat ≠ 48 := by
  have hv := h.val
  simp only [Int.zero_mul, Int.zero_add] at hv
  obtain ⟨c, t, rfl, hc⟩ := h.head rfl
  have hlo := dv_lo c t h.dig hc
  refine ⟨hv, h.dig, by simp, ?_, c, t, rfl, hc⟩
  have hlt : (10 : Int) ^ t.length < 10 ^ 18 := by
    have h3 : (10 : Int) ^ 18 = 1000000000000000000 := by decide
    omega
  rcases Nat.lt_or_ge t.length 18 with h | h
  · simp; omega
  · have := pow_mono10 h; omega
end Go.Proofs.Qxb6600104a.Pl
