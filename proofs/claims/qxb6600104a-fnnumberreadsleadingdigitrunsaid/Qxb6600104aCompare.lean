/-
  The walk of zzCompareDecimal (12): two texts, the shorter is the less, of one length byte by byte. Its tests draw their order: the world moves on by draws alone.
-/
import Derived.Test.Qxb6600104aDigits
import Derived.Deep.QuietTactic
import Derived.BigQuiet
namespace Go.Proofs.Qxb6600104a
open Go.RowKit
open Pl
set_option linter.unusedVariables false

theorem drewN2 (w : World) (n m : Nat) : (w.drewN n).drewN m = w.drewN (n + m) := World.drewN_drewN _ _ _
theorem drewN3 (w : World) (n m k : Nat) : ((w.drewN n).drewN m).drewN k = w.drewN (n + m + k) := by rw [drewN2 w n m, drewN2]
theorem cmp_eq (a b : ByteArray) (k : Nat) (ha : k < a.size) (hb : k < b.size) (h : a[k].toNat = b[k].toNat) :
    cmpL (a.data.toList.drop k) (b.data.toList.drop k) = cmpL (a.data.toList.drop (k + 1)) (b.data.toList.drop (k + 1)) := by
  rw [drop_cons a k ha, drop_cons b k hb]; simp [cmpL, h]
theorem cmp_lt (a b : ByteArray) (k : Nat) (ha : k < a.size) (hb : k < b.size) (h : a[k].toNat < b[k].toNat) :
    cmpL (a.data.toList.drop k) (b.data.toList.drop k) = -1 := by
  rw [drop_cons a k ha, drop_cons b k hb]; simp [cmpL, h]
theorem cmp_gt (a b : ByteArray) (k : Nat) (ha : k < a.size) (hb : k < b.size) (h : b[k].toNat < a[k].toNat) :
    cmpL (a.data.toList.drop k) (b.data.toList.drop k) = 1 := by
  rw [drop_cons a k ha, drop_cons b k hb]
  simp only [cmpL]
  rw [if_neg (by omega), if_pos h]
theorem cmp_end (a b : ByteArray) (k : Nat) (ha : ¬ k < a.size) : cmpL (a.data.toList.drop k) (b.data.toList.drop k) = 0 := by
  rw [List.drop_of_length_le (by simp; omega)]
  simp [cmpL]

set_option maxHeartbeats 400000 in
theorem compare_any (a b : ByteArray) (w : World) (hsa : a.size ≤ maxLen) (hsb : b.size ≤ maxLen) :
    Calls Try.prog 12 #[.string a, .string b] w fun e w' => e = .returned (.int .i64 (cmpD a.data.toList b.data.toList)) ∧ ∃ n, w' = w.drewN n := by
  unfold maxLen at hsa hsb
  by_cases c1 : a.size < b.size
  · have HC : Hid (cmpD a.data.toList b.data.toList = -1) := by
      show _ = _
      unfold cmpD
      rw [if_pos (by simpa using c1)]
    go_enter Try.func12, Try.ntmps12
    go_wp2
    go_ret
    exact ⟨ret_int HC.out.symm, 0, rfl⟩
  by_cases c2 : b.size < a.size
  · have HC : Hid (cmpD a.data.toList b.data.toList = 1) := by
      show _ = _
      unfold cmpD
      rw [if_neg (by simpa using c1), if_pos (by simpa using c2)]
    go_enter Try.func12, Try.ntmps12
    go_wp2
    go_ret
    exact ⟨ret_int HC.out.symm, 0, rfl⟩
  have HC : Hid (cmpD a.data.toList b.data.toList = cmpL a.data.toList b.data.toList) := by
    show _ = _
    unfold cmpD
    rw [if_neg (by simpa using c1), if_neg (by simpa using c2)]
  have hab1 : a.size ≤ b.size := by omega
  have hab2 : b.size ≤ a.size := by omega
  go_enter Try.func12, Try.ntmps12
  go_wp2
  go_loopw [5] (fun i wr => ∃ k n : Nat, k ≤ a.size ∧ i = .int .i64 k ∧ wr = w.drewN n ∧ Hid (cmpL a.data.toList b.data.toList = cmpL (a.data.toList.drop k) (b.data.toList.drop k))) (fun i _ => a.size - (intOf i).toNat)
  case atStart => exact ⟨0, 0, Nat.zero_le _, rfl, rfl, rfl⟩
  case round =>
    obtain ⟨k, n, hk, rfl, rfl, hz⟩ := hrel
    by_cases hlt : k < a.size
    · have hlb : k < b.size := by omega
      by_cases e1 : a[k].toNat < b[k].toNat
      · have HS : Hid (cmpL a.data.toList b.data.toList = -1) := by
          show _ = _
          rw [hz.out, cmp_lt a b k hlt hlb e1]
        have e1' : (a[k].toNat : Int) < (b[k].toNat : Int) := by omega
        clear hz e1
        go_wp2
        go_quiet (fail)
        go_wp2
        go_ret
        exact ⟨ret_int (by rw [HC.out, HS.out]), _, drewN2 _ _ _⟩
      · by_cases e2 : b[k].toNat < a[k].toNat
        · have HS : Hid (cmpL a.data.toList b.data.toList = 1) := by
            show _ = _
            rw [hz.out, cmp_gt a b k hlt hlb e2]
          have e1' : (b[k].toNat : Int) < (a[k].toNat : Int) := by omega
          clear hz e1 e2
          go_wp2
          go_quiet (fail)
          go_wp2
          go_quiet (fail)
          go_wp2
          go_ret
          exact ⟨ret_int (by rw [HC.out, HS.out]), _, drewN3 _ _ _ _⟩
        · have HS : Hid (cmpL a.data.toList b.data.toList = cmpL (a.data.toList.drop (k + 1)) (b.data.toList.drop (k + 1))) := by
            show _ = _
            rw [hz.out, cmp_eq a b k hlt hlb (by omega)]
          have e1' : (a[k].toNat : Int) ≤ (b[k].toNat : Int) := by omega
          have e2' : (b[k].toNat : Int) ≤ (a[k].toNat : Int) := by omega
          clear hz e1 e2
          go_wp2
          go_quiet (fail)
          go_wp2
          go_quiet (fail)
          go_wp2
          go_roundw
          case rel => exact ⟨k + 1, _, by omega, by go_num, rfl, HS⟩
          case measure => simp [intOf]; omega
    · have HS : Hid (cmpL a.data.toList b.data.toList = 0) := by
        show _ = _
        rw [hz.out, cmp_end a b k hlt]
      clear hz
      go_wp2
      go_ret
      exact ⟨ret_int (by rw [HC.out, HS.out]), n, rfl⟩
end Go.Proofs.Qxb6600104a
