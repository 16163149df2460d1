/-
  The walks of validCurrency (33), zzLower (16) and the law FnValidCurrencyIsANameButNotInLowerCase (10).
-/
import Derived.Test.Qxb6600171aName
import Derived.Laws.MakeOwn
namespace Go.Proofs.Qxb6600171a
open Go.RowKit
open Pl
set_option linter.unusedVariables false

theorem zOf_byte' (s : ByteArray) (k : Nat) (h : k < s.size) : zOf s.data.toList k = (s[k].toNat : Int) := by
  rw [zOf_at _ _ (by simpa using h)]; rfl

set_option maxHeartbeats 400000 in
theorem validCurrency_any (s : ByteArray) (w : World) (hs : s.size ≤ maxLen) :
    Calls Try.prog 33 #[.string s] w fun e w' => e = .returned (.bool (curB s.data.toList)) ∧ Below w.heap.size w w' := by
  unfold maxLen at hs
  have hsz : s.data.toList.length = s.size := by simp
  by_cases c1 : s.size < 1
  · have H : Hid (curB s.data.toList = false) := by
      show _ = _; unfold curB; rw [hsz, decide_eq_false (by omega)]; rfl
    go_enter Try.func33, Try.ntmps33
    go_wp2
    go_ret
    exact ⟨ret_bool H.out.symm, Below.refl _ _⟩
  by_cases c2 : 12 < s.size
  · have H : Hid (curB s.data.toList = false) := by
      show _ = _; unfold curB; rw [hsz, decide_eq_false (by omega)]; rfl
    go_enter Try.func33, Try.ntmps33
    go_wp2
    go_ret
    exact ⟨ret_bool H.out.symm, Below.refl _ _⟩
  have hp : 0 < s.size := by omega
  have hz0 := zOf_byte' s 0 hp
  by_cases c3 : upB (s[0].toNat : Int) = true
  case neg =>
    have c3' : upB (s[0].toNat : Int) = false := by simpa using c3
    have H : Hid (curB s.data.toList = false) := by
      show _ = _; unfold curB; rw [hz0, c3']; simp
    clear c3 hz0
    go_enter Try.func33, Try.ntmps33
    go_wp2_with (go_at_call 36; refine (isUpper_any _ _).mono ?_; rintro e w' ⟨rfl, rfl⟩)
    go_ret
    exact ⟨ret_bool H.out.symm, Below.refl _ _⟩
  have HN : curB s.data.toList = allZ cuB (zOf s.data.toList) s.size := by
    unfold curB; rw [hz0, c3, hsz, decide_eq_true (by omega)]; simp
  rw [HN]
  obtain ⟨cp, W, hcv, hcp, hbel, hsize, hcell, _⟩ := toBytes w s
  clear HN hsz hz0
  generalize zOf s.data.toList = z at *
  have P0 : Hid (∀ k, k < s.size → cuB (z k) = false → allZ cuB z s.size = false) := fun k hk h => allZ_no cuB z s.size k hk h
  go_enter Try.func33, Try.ntmps33
  go_wp2_with (go_at_call 36; refine (isUpper_any _ _).mono ?_; rintro e w' ⟨rfl, rfl⟩)
  go_loop [22] (fun i => ∃ k : Nat, k ≤ s.size ∧ i = .int .i64 k ∧ Hid (allZ cuB z k = true)) (fun i => s.size - (intOf i).toNat)
  case atStart => exact ⟨0, Nat.zero_le _, rfl, rfl⟩
  case round =>
    obtain ⟨k, hk, rfl, hall⟩ := hrel
    clear hcv c3
    by_cases hlt : k < s.size
    · have hc := hcell k hlt
      clear hcell
      by_cases hnm : cuB (z k) = true
      · have HS : Hid (allZ cuB z (k + 1) = true) := by
          show (allZ cuB z k && cuB (z k)) = true
          rw [hall.out, hnm]; rfl
        have hq : (upB (z k) = true) ∨ (upB (z k) = false ∧ dgB (z k) = true) := by
          unfold cuB at hnm
          cases h : upB (z k)
          · rw [h] at hnm; exact .inr ⟨rfl, by simpa using hnm⟩
          · exact .inl rfl
        clear P0 hall hnm
        generalize z k = c at *
        rcases hq with h | ⟨h, h'⟩
        all_goals
          go_wp2_with (first | (go_at_call 36; refine (isUpper_any _ _).mono ?_; rintro e w' ⟨rfl, rfl⟩) | (go_at_call 34; refine (isDigit_any _ _).mono ?_; rintro e w' ⟨rfl, rfl⟩))
          go_round
          case rel => exact ⟨k + 1, by omega, by go_num, HS⟩
          case measure => simp [intOf]; omega
      · have hnm' : cuB (z k) = false := by simpa using hnm
        have HS : Hid (allZ cuB z s.size = false) := P0.out k hlt hnm'
        have g1 : upB (z k) = false ∧ dgB (z k) = false := by unfold cuB at hnm'; simpa using hnm'
        obtain ⟨g1, g2⟩ := g1
        clear P0 hall hnm hnm'
        generalize z k = c at *
        go_wp2_with (first | (go_at_call 36; refine (isUpper_any _ _).mono ?_; rintro e w' ⟨rfl, rfl⟩) | (go_at_call 34; refine (isDigit_any _ _).mono ?_; rintro e w' ⟨rfl, rfl⟩))
        go_ret
        exact ⟨ret_bool HS.out.symm, hbel⟩
    · have HS : Hid (allZ cuB z s.size = true) := by
        have e : k = s.size := by omega
        rw [← e]; exact hall
      clear hall P0 hcell
      go_wp2
      go_ret
      exact ⟨ret_bool HS.out.symm, hbel⟩
end Go.Proofs.Qxb6600171a
