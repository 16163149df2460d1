/-
  The walk of zzSameBytes (15) where the two hold the same bytes; and what the leading run of digits is.
-/
import Derived.Test.Qxb6600104aWrites
namespace Go.Proofs.Qxb6600104a
open Go.RowKit
open Pl
set_option linter.unusedVariables false

theorem same_zero (a b : Option Addr) (ca cb : Nat) (w : World) :
    Calls Try.prog 15 #[.slice a 0 ca, .slice b 0 cb] w fun e w' => e = .returned (.bool true) ∧ ∃ n, w' = w.drewN n := by
  go_enter Try.func15, Try.ntmps15
  go_wp2
  go_loop [5] (fun i => i = .int .i64 0) (fun i => 0)
  case atStart => exact rfl
  case round =>
    obtain rfl := hrel
    go_wp2
    go_ret
    exact ⟨rfl, 0, rfl⟩

set_option maxHeartbeats 400000 in
theorem same_yes (ab ao ca bb bo cb len : Nat) (z : Nat → Int) (w : World) (hlen : len ≤ maxLen)
    (ha : ∀ i, i < len → w.cell? ⟨ab, ao + i, none⟩ = some (.int .u8 (z i))) (hb : ∀ i, i < len → w.cell? ⟨bb, bo + i, none⟩ = some (.int .u8 (z i))) :
    Calls Try.prog 15 #[.slice (some ⟨ab, ao, none⟩) len ca, .slice (some ⟨bb, bo, none⟩) len cb] w fun e w' => e = .returned (.bool true) ∧ ∃ n, w' = w.drewN n := by
  unfold maxLen at hlen
  go_enter Try.func15, Try.ntmps15
  go_wp2
  go_loopw [5] (fun i wr => ∃ k n : Nat, k ≤ len ∧ i = .int .i64 k ∧ wr = w.drewN n) (fun i _ => len - (intOf i).toNat)
  case atStart => exact ⟨0, 0, Nat.zero_le _, rfl, rfl⟩
  case round =>
    obtain ⟨k, n, hk, rfl, rfl⟩ := hrel
    by_cases hlt : k < len
    · have h1 := ha k hlt
      have h2 := hb k hlt
      have hlt' : (k : Int) < (len : Int) := by omega
      clear ha hb
      generalize z k = c at *
      go_wp2
      go_quiet (fail)
      go_wp2
      go_roundw
      case rel => exact ⟨k + 1, _, by omega, by go_num, rfl⟩
      case measure => simp [intOf]; omega
    · go_wp2
      go_ret
      exact ⟨rfl, n, rfl⟩

/-! The leading run of digits. -/
theorem run_le (l : List UInt8) : run l ≤ l.length := by
  induction l with
  | nil => simp [run]
  | cons c l ih => unfold run; split <;> simp <;> omega
theorem run_dig (l : List UInt8) : ∀ i (h : i < run l), isD (l[i]'(Nat.lt_of_lt_of_le h (run_le l))) = true := by
  induction l with
  | nil => intro i h; simp [run] at h
  | cons c l ih =>
    intro i h
    unfold run at h
    split at h
    · rename_i hc
      cases i with
      | zero => exact hc
      | succ i => exact ih i (by omega)
    · omega
theorem run_stop (l : List UInt8) (h : run l < l.length) : isD l[run l] = false := by
  induction l with
  | nil => simp at h
  | cons c l ih =>
    by_cases hc : isD c = true
    · have e : run (c :: l) = run l + 1 := by simp [run, hc]
      have h' : run l < l.length := by rw [e] at h; simpa using h
      have := ih h'
      simp only [e, List.getElem_cons_succ]
      exact this
    · have e : run (c :: l) = 0 := by simp [run, hc]
      simp only [e, List.getElem_cons_zero]
      simpa using hc
theorem run_allD (l : List UInt8) : ∀ k, k ≤ run l → allD (l.take k) = true
  | 0, _ => rfl
  | k + 1, h => by
    have hl := run_le l
    rw [List.take_succ_eq_append_getElem (by omega), allD_append, run_allD l k (by omega)]
    simp [allD, run_dig l k (by omega)]
end Go.Proofs.Qxb6600104a
