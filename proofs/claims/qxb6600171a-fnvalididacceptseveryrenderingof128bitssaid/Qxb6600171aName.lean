/-
  The walk of validName (32).
-/
import Derived.Test.Qxb6600171aBytes
namespace Go.Proofs.Qxb6600171a
open Go.RowKit
open Pl
set_option linter.unusedVariables false

theorem nameB_len (bs : List UInt8) (h : ¬ (1 ≤ bs.length ∧ bs.length ≤ 200)) : nameB bs = false := by
  unfold nameB; rw [decide_eq_false h]; rfl
theorem nameB_dot (bs : List UInt8) (h : (bs == [46]) = true) : nameB bs = false := by unfold nameB; rw [h]; simp
theorem nameB_dots (bs : List UInt8) (h : (bs == [46, 46]) = true) : nameB bs = false := by unfold nameB; rw [h]; simp
theorem nameB_all (bs : List UInt8) (h1 : 1 ≤ bs.length) (h2 : bs.length ≤ 200) (h3 : (bs == [46]) = false) (h4 : (bs == [46, 46]) = false) : nameB bs = allZ nmB (zOf bs) bs.length := by
  unfold nameB; rw [decide_eq_true ⟨h1, h2⟩, h3, h4]; simp

set_option maxHeartbeats 400000 in
theorem validName_any (s : ByteArray) (w : World) (hs : s.size ≤ maxLen) :
    Calls Try.prog 32 #[.string s] w fun e w' => e = .returned (.bool (nameB s.data.toList)) ∧ Below w.heap.size w w' := by
  unfold maxLen at hs
  have hsz : s.data.toList.length = s.size := by simp
  by_cases c1 : s.size < 1
  · have H : Hid (nameB s.data.toList = false) := nameB_len _ (by omega)
    go_enter Try.func32, Try.ntmps32
    go_wp2
    go_ret
    exact ⟨ret_bool H.out.symm, Below.refl _ _⟩
  by_cases c2 : 200 < s.size
  · have H : Hid (nameB s.data.toList = false) := nameB_len _ (by omega)
    go_enter Try.func32, Try.ntmps32
    go_wp2
    go_ret
    exact ⟨ret_bool H.out.symm, Below.refl _ _⟩
  by_cases c3 : (s.toList == [46]) = true
  · have H : Hid (nameB s.data.toList = false) := nameB_dot _ (by rw [← ByteArray.toList_eq]; exact c3)
    go_enter Try.func32, Try.ntmps32
    go_wp2
    go_ret
    exact ⟨ret_bool H.out.symm, Below.refl _ _⟩
  have c3' : (s.toList == [46]) = false := by simpa using c3
  clear c3
  by_cases c4 : (s.toList == [46, 46]) = true
  · have H : Hid (nameB s.data.toList = false) := nameB_dots _ (by rw [← ByteArray.toList_eq]; exact c4)
    go_enter Try.func32, Try.ntmps32
    go_wp2
    go_ret
    exact ⟨ret_bool H.out.symm, Below.refl _ _⟩
  have c4' : (s.toList == [46, 46]) = false := by simpa using c4
  clear c4
  have HN := nameB_all s.data.toList (by omega) (by omega) (by rw [← ByteArray.toList_eq]; exact c3') (by rw [← ByteArray.toList_eq]; exact c4')
  rw [hsz] at HN
  rw [HN]
  obtain ⟨cp, W, hcv, hcp, hbel, hsize, hcell, _⟩ := toBytes w s
  clear HN hsz
  generalize zOf s.data.toList = z at *
  have P0 : Hid (∀ k, k < s.size → nmB (z k) = false → allZ nmB z s.size = false) := fun k hk h => allZ_no nmB z s.size k hk h
  go_enter Try.func32, Try.ntmps32
  go_wp2
  go_loop [24] (fun i => ∃ k : Nat, k ≤ s.size ∧ i = .int .i64 k ∧ Hid (allZ nmB z k = true)) (fun i => s.size - (intOf i).toNat)
  case atStart => exact ⟨0, Nat.zero_le _, rfl, rfl⟩
  case round =>
    obtain ⟨k, hk, rfl, hall⟩ := hrel
    clear hcv c3' c4'
    by_cases hlt : k < s.size
    · have hc := hcell k hlt
      clear hcell
      by_cases hnm : nmB (z k) = true
      · have HS : Hid (allZ nmB z (k + 1) = true) := by
          show (allZ nmB z k && nmB (z k)) = true
          rw [hall.out, hnm]; rfl
        clear P0 hall
        have hq := (nmB_iff (z k)).1 hnm
        clear hnm
        generalize z k = c at *
        have hq' : (leB c = true) ∨ (leB c = false ∧ dgB c = true) ∨ c = 58 ∨ c = 45 ∨ c = 95 ∨ c = 46 := by
          have h1 := leB_iff c
          have h2 := dgB_iff c
          have h3 := leB_no c
          by_cases g1 : leB c = true
          · exact .inl g1
          · have g1' : leB c = false := by simpa using g1
            by_cases g2 : dgB c = true
            · exact .inr (.inl ⟨g1', g2⟩)
            · have := h3.1 g1'
              rw [h2] at g2
              omega
        clear hq
        rcases hq' with h | ⟨h, h'⟩ | rfl | rfl | rfl | rfl
        all_goals
          go_wp2_with (first | (go_at_call 35; refine (isLetter_any _ _).mono ?_; rintro e w' ⟨rfl, rfl⟩) | (go_at_call 34; refine (isDigit_any _ _).mono ?_; rintro e w' ⟨rfl, rfl⟩))
          go_round
          case rel => exact ⟨k + 1, by omega, by go_num, HS⟩
          case measure => simp [intOf]; omega
      · have hnm' : nmB (z k) = false := by simpa using hnm
        have HS : Hid (allZ nmB z s.size = false) := P0.out k hlt hnm'
        have hq := nmB_iff (z k)
        rw [hnm'] at hq
        clear P0 hall hnm hnm'
        generalize z k = c at *
        have g1 : leB c = false := (leB_no c).2 (fun h => by have := hq.2 (by omega); cases this)
        have g2 : dgB c = false := (dgB_no c).2 (fun h => by have := hq.2 (by omega); cases this)
        have g3 : (c != 58) = true := by simp; intro h; have := hq.2 (by omega); cases this
        have g4 : (c != 45) = true := by simp; intro h; have := hq.2 (by omega); cases this
        have g5 : (c != 95) = true := by simp; intro h; have := hq.2 (by omega); cases this
        have g6 : (c != 46) = true := by simp; intro h; have := hq.2 (by omega); cases this
        clear hq
        go_wp2_with (first | (go_at_call 35; refine (isLetter_any _ _).mono ?_; rintro e w' ⟨rfl, rfl⟩) | (go_at_call 34; refine (isDigit_any _ _).mono ?_; rintro e w' ⟨rfl, rfl⟩))
        go_ret
        exact ⟨ret_bool HS.out.symm, hbel⟩
    · have HS : Hid (allZ nmB z s.size = true) := by
        have e : k = s.size := by omega
        rw [← e]; exact hall
      clear hall P0 hcell
      go_wp2
      go_ret
      exact ⟨ret_bool HS.out.symm, hbel⟩
end Go.Proofs.Qxb6600171a
