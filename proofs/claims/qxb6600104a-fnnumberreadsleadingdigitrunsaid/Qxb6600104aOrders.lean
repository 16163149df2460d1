/-
  The walk of the law FnDigitsValueOrdersLikeDecimalText (4).
-/
import Derived.Test.Qxb6600104aCompare
import Derived.RowKit3
namespace Go.Proofs.Qxb6600104a
open Go.RowKit
open Pl
set_option linter.unusedVariables false

theorem grown_drewN (w : World) : ∀ n : Nat, Grown w (w.drewN n)
  | 0 => Grown.refl _
  | n + 1 => (grown_drewN w n).drew
theorem strip_data (s : ByteArray) : (s.extract (lz s.data.toList) s.size).data.toList = s.data.toList.drop (lz s.data.toList) := by
  have := lz_le s.data.toList
  simp
  rw [List.take_of_length_le (by simp)]
theorem sgn_lt {x y : Int} (h : x < y) : sgn x y = -1 := by unfold sgn; rw [if_pos h]
theorem sgn_gt {x y : Int} (h : y < x) : sgn x y = 1 := by unfold sgn; rw [if_neg (by omega), if_pos h]
theorem sgn_eq {x y : Int} (h : x = y) : sgn x y = 0 := by unfold sgn; rw [if_neg (by omega), if_neg (by omega)]

set_option maxHeartbeats 400000 in
theorem value_yes (s : ByteArray) (w : World) (hs : s.size ≤ maxLen) (ha : allD s.data.toList = true) (hb : dv s.data.toList < 1000000000000000000) :
    Calls Try.prog 8 #[.string s] w fun e w' => e = .returned (.tuple #[.int .i64 (dv s.data.toList), .bool true]) ∧ w' = w := by
  go_enter Try.func8, Try.ntmps8
  go_wp2_with (go_at_call 18; refine (digits_yes _ _ (by assumption) (by assumption) (by assumption)).mono ?_; rintro e w' ⟨rfl, rfl⟩)
  go_ret2
  exact ⟨rfl, rfl⟩

set_option maxHeartbeats 400000 in
theorem orders_walk (a0 : ByteArray) (a1 : ByteArray) (w0 : a0.size ≤ maxLen) (w1 : a1.size ≤ maxLen) (w : World) :
    Calls Try.prog 4 #[.string a0, .string a1] w fun e w' => e = .returned (.bool true) ∧ Grown w w' := by
  unfold maxLen at w0 w1
  by_cases c0 : 1048576 < a0.size
  · go_enter Try.func4, Try.ntmps4
    go_wp2
    go_ret
    exact ⟨rfl, Grown.refl _⟩
  by_cases c1 : 1048576 < a1.size
  · go_enter Try.func4, Try.ntmps4
    go_wp2
    go_ret
    exact ⟨rfl, Grown.refl _⟩
  by_cases c2 : 1048576 < a0.size + a1.size
  · go_enter Try.func4, Try.ntmps4
    go_wp2
    go_ret
    exact ⟨rfl, Grown.refl _⟩
  have m0 : a0.size ≤ maxLen := by unfold maxLen; omega
  have m1 : a1.size ≤ maxLen := by unfold maxLen; omega
  by_cases d0 : allD a0.data.toList = true
  case neg =>
    have d0' : allD a0.data.toList = false := by simpa using d0
    clear d0
    go_enter Try.func4, Try.ntmps4
    go_wp2_with (first | (go_at_call 10; refine (allDigits_any _ _ (by assumption)).mono ?_; rintro e w' ⟨rfl, rfl⟩) | (go_at_call 9; go_in))
    go_ret
    exact ⟨rfl, Grown.refl _⟩
  by_cases d1 : allD a1.data.toList = true
  case neg =>
    have d1' : allD a1.data.toList = false := by simpa using d1
    clear d1
    go_enter Try.func4, Try.ntmps4
    go_wp2_with (first | (go_at_call 10; refine (allDigits_any _ _ (by assumption)).mono ?_; rintro e w' ⟨rfl, rfl⟩) | (go_at_call 9; go_in))
    go_ret
    exact ⟨rfl, Grown.refl _⟩
  have l0 := lz_le a0.data.toList
  have l1 := lz_le a1.data.toList
  simp at l0 l1
  have HD := strip_data a0
  have HE := strip_data a1
  have HL := cmp_law _ _ d0 d1
  rw [← HD, ← HE] at HL
  have Z0 : (a0.extract (lz a0.data.toList) a0.size).size = a0.size - lz a0.data.toList := by simp
  have Z1 : (a1.extract (lz a1.data.toList) a1.size).size = a1.size - lz a1.data.toList := by simp
  have B0 := (dv_bd _ d0).1
  have B1 := (dv_bd _ d1).1
  have S0 : a0.size - lz a0.data.toList ≤ 18 → dv a0.data.toList < 1000000000000000000 := fun h => dv_small _ d0 (by simpa using h)
  have S1 : a1.size - lz a1.data.toList ≤ 18 → dv a1.data.toList < 1000000000000000000 := fun h => dv_small _ d1 (by simpa using h)
  have A0 : Calls Try.prog 11 #[.string a0] w fun e w' => e = .returned (.string (a0.extract (lz a0.data.toList) a0.size)) ∧ w' = w := strip_any a0 w m0
  have A1 : Calls Try.prog 11 #[.string a1] w fun e w' => e = .returned (.string (a1.extract (lz a1.data.toList) a1.size)) ∧ w' = w := strip_any a1 w m1
  generalize a0.extract (lz a0.data.toList) a0.size = s0 at *
  generalize a1.extract (lz a1.data.toList) a1.size = s1 at *
  have tokA : True := trivial
  have tokV : True := trivial
  by_cases e0 : 18 < s0.size
  · go_enter Try.func4, Try.ntmps4
    go_wp2_with (first | (go_at_call 10; refine (allDigits_any _ _ (by assumption)).mono ?_; rintro e w' ⟨rfl, rfl⟩) | (go_at_call 11; have _t := tokA; refine A0.mono ?_; rintro e w' ⟨rfl, rfl⟩; clear tokA) | (go_at_call 11; refine A1.mono ?_; rintro e w' ⟨rfl, rfl⟩) | (go_at_call 9; go_in))
    go_ret
    exact ⟨rfl, Grown.refl _⟩
  by_cases e1 : 18 < s1.size
  · go_enter Try.func4, Try.ntmps4
    go_wp2_with (first | (go_at_call 10; refine (allDigits_any _ _ (by assumption)).mono ?_; rintro e w' ⟨rfl, rfl⟩) | (go_at_call 11; have _t := tokA; refine A0.mono ?_; rintro e w' ⟨rfl, rfl⟩; clear tokA) | (go_at_call 11; refine A1.mono ?_; rintro e w' ⟨rfl, rfl⟩) | (go_at_call 9; go_in))
    go_ret
    exact ⟨rfl, Grown.refl _⟩
  have U0 := S0 (by omega)
  have U1 := S1 (by omega)
  have V0 : Calls Try.prog 8 #[.string a0] w fun e w' => e = .returned (.tuple #[.int .i64 (dv a0.data.toList), .bool true]) ∧ w' = w := value_yes a0 w m0 d0 U0
  have V1 : Calls Try.prog 8 #[.string a1] w fun e w' => e = .returned (.tuple #[.int .i64 (dv a1.data.toList), .bool true]) ∧ w' = w := value_yes a1 w m1 d1 U1
  have K := compare_any s0 s1 w (by unfold maxLen; omega) (by unfold maxLen; omega)
  rw [HL] at K
  clear HL HD HE S0 S1 Z0 Z1
  generalize dv a0.data.toList = x at *
  generalize dv a1.data.toList = y at *
  by_cases g1 : x < y
  · rw [sgn_lt g1] at K
    go_enter Try.func4, Try.ntmps4
    go_wp2_with (first | (go_at_call 10; refine (allDigits_any _ _ (by assumption)).mono ?_; rintro e w' ⟨rfl, rfl⟩) | (go_at_call 11; have _t := tokA; refine A0.mono ?_; rintro e w' ⟨rfl, rfl⟩; clear tokA) | (go_at_call 11; refine A1.mono ?_; rintro e w' ⟨rfl, rfl⟩) | (go_at_call 8; have _t := tokV; refine V0.mono ?_; rintro e w' ⟨rfl, rfl⟩; clear tokV) | (go_at_call 8; refine V1.mono ?_; rintro e w' ⟨rfl, rfl⟩) | (go_at_call 12; refine K.mono ?_; rintro e w' ⟨rfl, n, rfl⟩) | (go_at_call 9; go_in))
    go_ret
    exact ⟨rfl, grown_drewN _ _⟩
  by_cases g2 : y < x
  · rw [sgn_gt g2] at K
    go_enter Try.func4, Try.ntmps4
    go_wp2_with (first | (go_at_call 10; refine (allDigits_any _ _ (by assumption)).mono ?_; rintro e w' ⟨rfl, rfl⟩) | (go_at_call 11; have _t := tokA; refine A0.mono ?_; rintro e w' ⟨rfl, rfl⟩; clear tokA) | (go_at_call 11; refine A1.mono ?_; rintro e w' ⟨rfl, rfl⟩) | (go_at_call 8; have _t := tokV; refine V0.mono ?_; rintro e w' ⟨rfl, rfl⟩; clear tokV) | (go_at_call 8; refine V1.mono ?_; rintro e w' ⟨rfl, rfl⟩) | (go_at_call 12; refine K.mono ?_; rintro e w' ⟨rfl, n, rfl⟩) | (go_at_call 9; go_in))
    go_ret
    exact ⟨rfl, grown_drewN _ _⟩
  · rw [sgn_eq (by omega)] at K
    go_enter Try.func4, Try.ntmps4
    go_wp2_with (first | (go_at_call 10; refine (allDigits_any _ _ (by assumption)).mono ?_; rintro e w' ⟨rfl, rfl⟩) | (go_at_call 11; have _t := tokA; refine A0.mono ?_; rintro e w' ⟨rfl, rfl⟩; clear tokA) | (go_at_call 11; refine A1.mono ?_; rintro e w' ⟨rfl, rfl⟩) | (go_at_call 8; have _t := tokV; refine V0.mono ?_; rintro e w' ⟨rfl, rfl⟩; clear tokV) | (go_at_call 8; refine V1.mono ?_; rintro e w' ⟨rfl, rfl⟩) | (go_at_call 12; refine K.mono ?_; rintro e w' ⟨rfl, n, rfl⟩) | (go_at_call 9; go_in))
    go_ret
    exact ⟨rfl, grown_drewN _ _⟩
end Go.Proofs.Qxb6600104a
