/-
  The walks of the functions over texts of digits: zzAllDigits (10), zzStripZeros (11), digitsValue (18).
-/
import Derived.Test.Qxb6600104aProg
import Derived.Test.Qxb6600104aPlain
import Derived.WalkKit
import Derived.WalkSpells
import Derived.WalkLawsBesides
namespace Go.Proofs.Qxb6600104a
open Go.RowKit
open Pl
set_option linter.unusedVariables false

theorem ret_int {k : IntKind} {a b : Int} (h : a = b) : Ending.returned (.int k a) = .returned (.int k b) := by rw [h]
theorem ret_bool {a b : Bool} (h : a = b) : Ending.returned (.bool a) = .returned (.bool b) := by rw [h]
theorem ret_string {a b : ByteArray} (h : a = b) : Ending.returned (.string a) = .returned (.string b) := by rw [h]
theorem ret_ib {k : IntKind} {a b : Int} {c : Bool} (h : a = b) : Ending.returned (.tuple #[.int k a, .bool c]) = .returned (.tuple #[.int k b, .bool c]) := by rw [h]
theorem int_eq {k : IntKind} {a b : Int} (h : a = b) : Value.int k a = .int k b := by rw [h]

theorem take_snoc (s : ByteArray) (k : Nat) (h : k < s.size) : s.data.toList.take (k + 1) = s.data.toList.take k ++ [s[k]] := by
  rw [List.take_succ_eq_append_getElem (by simpa using h)]; rfl
theorem drop_cons (s : ByteArray) (k : Nat) (h : k < s.size) : s.data.toList.drop k = s[k] :: s.data.toList.drop (k + 1) := by
  rw [List.drop_eq_getElem_cons (by simpa using h)]; rfl
theorem allD_succ (s : ByteArray) (k : Nat) (h : k < s.size) : allD (s.data.toList.take (k + 1)) = (allD (s.data.toList.take k) && isD s[k]) := by
  rw [take_snoc s k h, allD_append]; simp [allD]
theorem allD_no (s : ByteArray) (k : Nat) (h : k < s.size) (hd : isD s[k] = false) : allD s.data.toList = false := by
  rw [← Bool.not_eq_true]
  intro ha
  have := allD_take _ (k + 1) ha
  rw [allD_succ s k h, hd] at this
  simp at this
theorem allD_at (s : ByteArray) (k : Nat) (h : k < s.size) (ha : allD s.data.toList = true) : isD s[k] = true := by
  by_cases hd : isD s[k] = true
  · exact hd
  · rw [allD_no s k h (by simpa using hd)] at ha; cases ha

set_option maxHeartbeats 400000 in
theorem allDigits_any (s : ByteArray) (w : World) (hs : s.size ≤ maxLen) :
    Calls Try.prog 10 #[.string s] w fun e w' => e = .returned (.bool (allD s.data.toList)) ∧ w' = w := by
  unfold maxLen at hs
  go_enter Try.func10, Try.ntmps10
  go_wp2
  go_loop [3] (fun i => ∃ k : Nat, k ≤ s.size ∧ i = .int .i64 k ∧ Hid (allD (s.data.toList.take k) = true)) (fun i => s.size - (intOf i).toNat)
  case atStart => exact ⟨0, Nat.zero_le _, rfl, rfl⟩
  case round =>
    obtain ⟨k, hk, rfl, hall⟩ := hrel
    by_cases hlt : k < s.size
    · by_cases hd : isD s[k] = true
      · have HS : Hid (allD (s.data.toList.take (k + 1)) = true) := by
          show _ = _
          rw [allD_succ s k hlt, hall.out, hd]; rfl
        obtain ⟨h1, h2⟩ := (isD_int _).1 hd
        clear hd hall
        go_wp2
        go_round
        case rel => exact ⟨k + 1, by omega, by go_num, HS⟩
        case measure => simp [intOf]; omega
      · have HN : Hid (allD s.data.toList = false) := allD_no s k hlt (by simpa using hd)
        have h12 := (isD_int_not s[k]).1 (by simpa using hd)
        clear hd hall
        rcases h12 with h1 | h1
        · go_wp2
          go_ret
          exact ⟨ret_bool HN.out.symm, rfl⟩
        · go_wp2
          go_ret
          exact ⟨ret_bool HN.out.symm, rfl⟩
    · go_wp2
      go_ret
      exact ⟨ret_bool (by rw [← hall.out, List.take_of_length_le (by simp; omega)]), rfl⟩

theorem lz_step (s : ByteArray) (k : Nat) (h : k < s.size) (hz : s[k].toNat = 48) : lz (s.data.toList.drop k) = lz (s.data.toList.drop (k + 1)) + 1 := by
  rw [drop_cons s k h]; simp [lz, hz]
theorem lz_stop (s : ByteArray) (k : Nat) (h : k < s.size) (hz : s[k].toNat ≠ 48) : lz (s.data.toList.drop k) = 0 := by
  rw [drop_cons s k h]; simp [lz, hz]
theorem lz_end (s : ByteArray) (k : Nat) (h : ¬ k < s.size) : lz (s.data.toList.drop k) = 0 := by
  rw [List.drop_of_length_le (by simp; omega)]; rfl

set_option maxHeartbeats 400000 in
theorem strip_any (s : ByteArray) (w : World) (hs : s.size ≤ maxLen) :
    Calls Try.prog 11 #[.string s] w fun e w' => e = .returned (.string (s.extract (lz s.data.toList) s.size)) ∧ w' = w := by
  unfold maxLen at hs
  go_enter Try.func11, Try.ntmps11
  go_wp2
  go_loop [3] (fun i => ∃ k : Nat, k ≤ s.size ∧ i = .int .i64 k ∧ Hid (lz s.data.toList = k + lz (s.data.toList.drop k))) (fun i => s.size - (intOf i).toNat)
  case atStart => exact ⟨0, Nat.zero_le _, rfl, by show _ = _; simp⟩
  case round =>
    obtain ⟨k, hk, rfl, hz⟩ := hrel
    by_cases hlt : k < s.size
    · by_cases hd : s[k].toNat = 48
      · have HS : Hid (lz s.data.toList = (k + 1) + lz (s.data.toList.drop (k + 1))) := by
          show _ = _
          rw [hz.out, lz_step s k hlt hd]; omega
        have hd1 : (s[k].toNat : Int) ≤ 48 := by omega
        have hd2 : 48 ≤ (s[k].toNat : Int) := by omega
        clear hd hz
        go_wp2
        go_round
        case rel => exact ⟨k + 1, by omega, by go_num, HS⟩
        case measure => simp [intOf]; omega
      · have HS : Hid (lz s.data.toList = k) := by
          show _ = _
          rw [hz.out, lz_stop s k hlt hd]; rfl
        have hd1 : ((s[k].toNat : Int) == 48) = false := by simp; omega
        clear hd hz
        go_wp2
        go_ret
        exact ⟨ret_string (by rw [HS.out]), rfl⟩
    · have HS : Hid (lz s.data.toList = k) := by
        show _ = _
        rw [hz.out, lz_end s k hlt]; rfl
      clear hz
      go_wp2
      go_ret
      exact ⟨ret_string (by rw [HS.out]), rfl⟩

theorem dv_succ (s : ByteArray) (k : Nat) (h : k < s.size) : dv (s.data.toList.take (k + 1)) = dv (s.data.toList.take k) * 10 + ((s[k].toNat : Int) - 48) := by
  rw [take_snoc s k h, dv_snoc]

set_option maxHeartbeats 400000 in
/-- digitsValue at a text of digits whose number lies below 10^18. -/
theorem digits_yes (s : ByteArray) (w : World) (hs : s.size ≤ maxLen) (ha : allD s.data.toList = true) (hb : dv s.data.toList < 1000000000000000000) :
    Calls Try.prog 18 #[.string s] w fun e w' => e = .returned (.tuple #[.int .i64 (dv s.data.toList), .bool true]) ∧ w' = w := by
  unfold maxLen at hs
  have HA : Hid (allD s.data.toList = true) := ha
  clear ha
  go_enter Try.func18, Try.ntmps18
  go_wp2
  go_loop [2, 8] (fun n i => ∃ k : Nat, k ≤ s.size ∧ i = .int .i64 k ∧ n = .int .i64 (dv (s.data.toList.take k))) (fun _ i => s.size - (intOf i).toNat)
  case atStart => exact ⟨0, Nat.zero_le _, rfl, rfl⟩
  case round =>
    obtain ⟨k, hk, rfl, rfl⟩ := hrel
    by_cases hlt : k < s.size
    · have HS : Hid (dv (s.data.toList.take (k + 1)) = dv (s.data.toList.take k) * 10 + ((s[k].toNat : Int) - 48)) := dv_succ s k hlt
      have hn0 := (dv_bd _ (allD_take _ k HA.out)).1
      have hn1 : dv (s.data.toList.take k) * 10 + ((s[k].toNat : Int) - 48) < 1000000000000000000 := by
        rw [← HS.out]; have := dv_take_le _ (k + 1) HA.out; omega
      obtain ⟨h1, h2⟩ := (isD_int _).1 (allD_at s k hlt HA.out)
      generalize dv (s.data.toList.take k) = n at *
      go_wp2
      go_round
      case rel => exact ⟨k + 1, by omega, by go_num, by rw [HS.out]⟩
      case measure => simp [intOf]; omega
    · have HS : Hid (dv (s.data.toList.take k) = dv s.data.toList) := by
        show _ = _
        rw [List.take_of_length_le (by simp; omega)]
      go_wp2
      go_ret2
      exact ⟨ret_ib HS.out, rfl⟩
end Go.Proofs.Qxb6600104a
