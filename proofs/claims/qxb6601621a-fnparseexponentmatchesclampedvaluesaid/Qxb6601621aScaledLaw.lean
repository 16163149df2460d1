/-
  The walk of the law FnScaledMatchesPlaceValue (4).
-/
import Derived.Test.Qxb6601621aModel
namespace Go.Proofs.Qxb6601621a
open Go.RowKit
open Pl
set_option linter.unusedVariables false

theorem allD_succ (s : ByteArray) (k : Nat) (h : k < s.size) : allD (s.data.toList.take (k + 1)) = (allD (s.data.toList.take k) && isD s[k]) := by
  rw [take_snoc s k h, allD_append]; simp [allD]
theorem dgB_isD (c : UInt8) : dgB (c.toNat : Int) = isD c := by
  rw [Bool.eq_iff_iff, isD_int]; simp [dgB]

/-- Both answer alike. -/
theorem both (s : ByteArray) (neg : Bool) (ex p : Int) (hs : s.size ≤ 1048576) (hp0 : 0 ≤ p) (hp : p ≤ 9223372036853727231) (ha : allD s.data.toList = true) :
    ∃ (v : Int) (b : Bool), (∀ W, Calls Try.prog 11 #[.bool neg, .string s, .int .i64 ex, .int .i64 p] W fun e w' => e = .returned (.tuple #[.int .i64 v, .bool b]) ∧ Below W.heap.size W w') ∧
      ∀ W, Calls Try.prog 12 #[.string s, .int .i64 p] W fun e w' => e = .returned (.tuple #[.int .i64 v, .bool b]) ∧ ∃ n, w' = W.drewN n := by
  by_cases h5 : 5 < (s.size : Int) + p
  · exact ⟨0, false, fun W => zzScaled_of (scaled_no s neg ex p W hs hp0 hp h5), fun W => model_no s p W hs hp0 hp h5⟩
  · obtain ⟨q, rfl⟩ : ∃ q : Nat, p = (q : Int) := ⟨p.toNat, by omega⟩
    exact ⟨_, _, fun W => zzScaled_of (scaled_main s neg ex q W ha (by omega)), fun W => model_main s q W ha (by omega)⟩

set_option maxHeartbeats 400000 in
theorem scaled_walk (a0 : Bool) (a1 : ByteArray) (a2 a3 : Int) (w1 : a1.size ≤ maxLen) (w : World) :
    Calls Try.prog 4 #[.bool a0, .string a1, .int .i64 a2, .int .i64 a3] w fun e w' => e = .returned (.bool true) ∧ Below w.heap.size w w' := by
  unfold maxLen at w1
  by_cases c0 : 1048576 < a1.size
  · go_enter Try.func4, Try.ntmps4
    go_wp2
    go_ret
    exact ⟨rfl, Below.refl _ _⟩
  by_cases c1 : a3 < 0
  · go_enter Try.func4, Try.ntmps4
    go_wp2
    go_ret
    exact ⟨rfl, Below.refl _ _⟩
  by_cases c2 : 9223372036853727231 < a3
  · go_enter Try.func4, Try.ntmps4
    go_wp2
    go_ret
    exact ⟨rfl, Below.refl _ _⟩
  have HB : Hid (allD a1.data.toList = true → ∃ (v : Int) (b : Bool), (∀ W, Calls Try.prog 11 #[.bool a0, .string a1, .int .i64 a2, .int .i64 a3] W fun e w' => e = .returned (.tuple #[.int .i64 v, .bool b]) ∧ Below W.heap.size W w') ∧
      ∀ W, Calls Try.prog 12 #[.string a1, .int .i64 a3] W fun e w' => e = .returned (.tuple #[.int .i64 v, .bool b]) ∧ ∃ n, w' = W.drewN n) :=
    both a1 a0 a2 a3 (by omega) (by omega) (by omega)
  go_enter Try.func4, Try.ntmps4
  go_wp2
  go_loop [9] (fun i => ∃ k : Nat, k ≤ a1.size ∧ i = .int .i64 k ∧ Hid (allD (a1.data.toList.take k) = true)) (fun i => a1.size - (intOf i).toNat)
  case atStart => exact ⟨0, Nat.zero_le _, rfl, rfl⟩
  case round =>
    obtain ⟨k, hk, rfl, hall⟩ := hrel
    by_cases hlt : k < a1.size
    · have hg := dgB_isD a1[k]
      by_cases hd : isD a1[k] = true
      · have HS : Hid (allD (a1.data.toList.take (k + 1)) = true) := by
          show _ = _
          rw [allD_succ a1 k hlt, hall.out, hd]; rfl
        have hg' : dgB (a1[k].toNat : Int) = true := hg.trans hd
        clear hg hd hall HB
        go_wp2_with (go_at_call 10; refine (isDigit_any _ _).mono ?_; rintro e w' ⟨rfl, rfl⟩)
        go_round
        case rel => exact ⟨k + 1, by omega, by go_num, HS⟩
        case measure => simp [intOf]; omega
      · have hg' : dgB (a1[k].toNat : Int) = false := hg.trans (by simpa using hd)
        clear hg hd hall HB
        go_wp2_with (go_at_call 10; refine (isDigit_any _ _).mono ?_; rintro e w' ⟨rfl, rfl⟩)
        go_ret
        exact ⟨rfl, Below.refl _ _⟩
    · obtain ⟨v, b, K1, K2⟩ := HB.out (by have := hall.out; rwa [List.take_of_length_le (by simp; omega)] at this)
      clear HB hall
      cases b
      all_goals
        go_wp2_with (first | (go_at_call 11; refine (K1 _).mono ?_; rintro e w1 ⟨rfl, hb⟩) | (go_at_call 12; refine (K2 _).mono ?_; rintro e w2 ⟨rfl, n, rfl⟩))
        go_ret
        exact ⟨ret_bool (by simp), below_drewN hb _⟩
end Go.Proofs.Qxb6601621a
