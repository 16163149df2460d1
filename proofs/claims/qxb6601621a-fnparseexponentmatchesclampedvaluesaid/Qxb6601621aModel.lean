/-
  The walk of zzScaledModel (12) and of the law FnScaledMatchesPlaceValue (4).
-/
import Derived.Test.Qxb6601621aScaled
import Derived.Deep.DeepMust
namespace Go.Proofs.Qxb6601621a
open Go.RowKit
open Pl
set_option linter.unusedVariables false

theorem pow_int (x : Int) (m : Nat) (w : World) (hx : x = (m : Int)) (hm : m ≤ 5) : Calls Try.prog 17 #[.int .i64 x] w fun e w' => e = .returned (.int .i64 (p10 m)) ∧ w' = w := by
  subst hx; exact pow_any m hm w

set_option maxHeartbeats 400000 in
theorem model_main (s : ByteArray) (p : Nat) (w : World) (ha : allD s.data.toList = true) (hp : s.size + p ≤ 5) :
    Calls Try.prog 12 #[.string s, .int .i64 (p : Int)] w fun e w' =>
      e = .returned (.tuple #[.int .i64 (dv s.data.toList * p10 p), .bool (decide (dv s.data.toList * p10 p ≤ 10000))]) ∧ ∃ n, w' = w.drewN n := by
  have HA : Hid (allD s.data.toList = true) := ha
  clear ha
  have hlen : s.data.toList.length = s.size := by simp
  have hsm := dv_p10_small s.data.toList p HA.out (by omega)
  go_enter Try.func12, Try.ntmps12
  go_wp2
  go_loopw [6, 7] (fun v i wr => ∃ k m : Nat, k ≤ s.size ∧ i = .int .i64 k ∧ v = .int .i64 (dv (s.data.toList.take k) * p10 (s.size - k + p)) ∧ Hid (wr = w.drewN m)) (fun _ i _ => s.size - (intOf i).toNat)
  case atStart => exact ⟨0, 0, Nat.zero_le _, rfl, by simp [dv], rfl⟩
  case round =>
    obtain ⟨k, m, hk, rfl, rfl, HW⟩ := hrel
    have q1 := dv_part s.data.toList k p HA.out (by omega)
    rw [hlen] at q1
    by_cases hlt : k < s.size
    · have q2 := dv_part s.data.toList (k + 1) p HA.out (by omega)
      have HS : Hid (dv (s.data.toList.take (k + 1)) * p10 (s.size - (k + 1) + p) = dv (s.data.toList.take k) * p10 (s.size - k + p) + ((s[k].toNat : Int) - 48) * p10 (s.size - (k + 1) + p)) := by
        exact dv_nextN s.data.toList s.size k p hlen (by omega)
      rw [hlen, HS.out] at q2
      obtain ⟨g1, g2⟩ := (isD_int _).1 (allD_at s k hlt HA.out)
      have c1 := p10_pos (s.size - (k + 1) + p)
      have c2 := p10_five (s.size - (k + 1) + p) (by omega)
      have c3 : 0 ≤ ((s[k].toNat : Int) - 48) * p10 (s.size - (k + 1) + p) := Int.mul_nonneg (by omega) (by omega)
      obtain ⟨q3, q4⟩ := q1
      obtain ⟨q5, q6⟩ := q2
      have q7 := hsm.2
      generalize dv (s.data.toList.take k) * p10 (s.size - k + p) = v at *
      have hlt' : (k : Int) < (s.size : Int) := by omega
      have PW := fun W => pow_int ((s.size : Int) - 1 - (k : Int) + (p : Int)) (s.size - (k + 1) + p) W (by omega) (by omega)
      generalize hpw : p10 (s.size - (k + 1) + p) = pw at *
      have HP : Hid (p10 (s.size - (k + 1) + p) = pw) := hpw
      clear hpw
      have w1 : IntKind.u8.wrap ((s[k].toNat : Int) - 48) = (s[k].toNat : Int) - 48 := by rw [IntKind.wrap_u8']; omega
      have w2 : IntKind.i64.wrap ((s[k].toNat : Int) - 48) = (s[k].toNat : Int) - 48 := by rw [IntKind.wrap_i64]; omega
      have w3 : IntKind.i64.wrap (((s[k].toNat : Int) - 48) * pw) = ((s[k].toNat : Int) - 48) * pw := by rw [IntKind.wrap_i64]; omega
      have w4 : IntKind.i64.wrap (v + ((s[k].toNat : Int) - 48) * pw) = v + ((s[k].toNat : Int) - 48) * pw := by rw [IntKind.wrap_i64]; omega
      have w5 : IntKind.i64.wrap ((s.size : Int) - 1) = (s.size : Int) - 1 := by rw [IntKind.wrap_i64]; omega
      have w6 : IntKind.i64.wrap ((s.size : Int) - 1 - (k : Int)) = (s.size : Int) - 1 - (k : Int) := by rw [IntKind.wrap_i64]; omega
      have w7 : IntKind.i64.wrap ((s.size : Int) - 1 - (k : Int) + (p : Int)) = (s.size : Int) - 1 - (k : Int) + (p : Int) := by rw [IntKind.wrap_i64]; omega
      clear HA
      go_wp2
      go_quiet (first | (go_at_call 17; refine Calls.quiet_of_same (PW _)))
      go_wp2
      go_roundw
      case rel => exact ⟨k + 1, _, by omega, by go_num, by rw [HP.out, HS.out], by rw [HW.out]; exact World.drewN_drewN _ _ _⟩
      case measure => simp [intOf]; omega
    · have ek : k = s.size := by omega
      have HE : Hid (dv (s.data.toList.take k) * p10 (s.size - k + p) = dv s.data.toList * p10 p) := by
        show _ = _
        rw [List.take_of_length_le (by simp; omega), ek, Nat.sub_self, Nat.zero_add]
      rw [HE.out]
      have hks : s.size ≤ k := by omega
      clear q1 HA ek
      go_wp2
      go_ret2
      exact ⟨rfl, m, HW.out⟩

theorem model_no (s : ByteArray) (p : Int) (w : World) (hs : s.size ≤ 1048576) (hp0 : 0 ≤ p) (hp : p ≤ 9223372036853727231) (h5 : 5 < (s.size : Int) + p) :
    Calls Try.prog 12 #[.string s, .int .i64 p] w fun e w' => e = .returned (.tuple #[.int .i64 0, .bool false]) ∧ ∃ n, w' = w.drewN n := by
  go_enter Try.func12, Try.ntmps12
  go_wp2
  go_ret2
  exact ⟨rfl, 0, rfl⟩
end Go.Proofs.Qxb6601621a
