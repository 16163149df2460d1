/-
  The walks of zzIsDigit (10), zzPow10 (17), decimal.scaled (16).
-/
import Derived.Test.Qxb6601621aProg
import Derived.Test.Qxb6601621aPlain
import Derived.WalkKit
import Derived.WalkSpells
import Derived.WalkLawsBesides
import Derived.WalkSmall
import Derived.Deep.QuietTactic
import Derived.BigQuiet
import Derived.Deep.LoopGhost
import Derived.Laws.RangeAny
namespace Go.Proofs.Qxb6601621a
open Go.RowKit
open Pl
set_option linter.unusedVariables false

theorem ret_bool {a b : Bool} (h : a = b) : Ending.returned (.bool a) = .returned (.bool b) := by rw [h]
theorem ret_int {k : IntKind} {a b : Int} (h : a = b) : Ending.returned (.int k a) = .returned (.int k b) := by rw [h]
theorem ret_ib {k : IntKind} {a b : Int} {c d : Bool} (h : a = b) (h' : c = d) : Ending.returned (.tuple #[.int k a, .bool c]) = .returned (.tuple #[.int k b, .bool d]) := by rw [h, h']
theorem take_snoc (s : ByteArray) (k : Nat) (h : k < s.size) : s.data.toList.take (k + 1) = s.data.toList.take k ++ [s[k]] := by
  rw [List.take_succ_eq_append_getElem (by simpa using h)]; rfl
theorem dv_succ (s : ByteArray) (k : Nat) (h : k < s.size) : dv (s.data.toList.take (k + 1)) = dv (s.data.toList.take k) * 10 + ((s[k].toNat : Int) - 48) := by
  rw [take_snoc s k h, dv_snoc]
theorem allD_at (s : ByteArray) (k : Nat) (h : k < s.size) (ha : allD s.data.toList = true) : isD s[k] = true := by
  unfold allD at ha
  rw [List.all_eq_true] at ha
  exact ha _ (by have : s[k] = s.data.toList[k]'(by simpa using h) := rfl; rw [this]; exact List.getElem_mem _)

def dgB (c : Int) : Bool := decide (48 ≤ c ∧ c ≤ 57)
theorem isDigit_any (c : Int) (w : World) : Calls Try.prog 10 #[.int .u8 c] w fun e w' => e = .returned (.bool (dgB c)) ∧ w' = w := by
  have hq : (48 ≤ c ∧ c ≤ 57) ∨ c < 48 ∨ 57 < c := by omega
  rcases hq with ⟨h1, h2⟩ | h1 | h1
  · have H : Hid (dgB c = true) := by show _ = _; unfold dgB; simp; omega
    go_enter Try.func10, Try.ntmps10
    go_wp2
    go_ret
    exact ⟨ret_bool (by first | exact H.out.symm | (rw [H.out]; simp; omega)), rfl⟩
  all_goals
    have H : Hid (dgB c = false) := by show _ = _; unfold dgB; simp; omega
    go_enter Try.func10, Try.ntmps10
    go_wp2
    go_ret
    exact ⟨ret_bool (by first | exact H.out.symm | (rw [H.out]; simp; omega)), rfl⟩

theorem pow_any (k : Nat) (hk : k ≤ 5) (w : World) : Calls Try.prog 17 #[.int .i64 (k : Int)] w fun e w' => e = .returned (.int .i64 (p10 k)) ∧ w' = w := by
  go_enter Try.func17, Try.ntmps17
  go_wp2
  go_loop [3, 4] (fun p i => ∃ j : Nat, j ≤ k ∧ i = .int .i64 j ∧ p = .int .i64 (p10 j)) (fun _ i => k - (intOf i).toNat)
  case atStart => exact ⟨0, Nat.zero_le _, rfl, rfl⟩
  case round =>
    obtain ⟨j, hj, rfl, rfl⟩ := hrel
    by_cases hlt : j < k
    · have b1 := p10_pos j
      have b2 := p10_five j (by omega)
      have HS : Hid (p10 (j + 1) = p10 j * 10) := rfl
      generalize p10 j = q at *
      go_wp2
      go_round
      case rel => exact ⟨j + 1, by omega, by go_num, by rw [HS.out]⟩
      case measure => simp [intOf]; omega
    · obtain rfl : j = k := by omega
      go_wp2
      go_ret
      exact ⟨rfl, rfl⟩

/-- 'next' on a text of digits, the iterator's block named by its number. -/
theorem next_digit (W : World) (B : Nat) (hB : W.heap.size = B) (s : ByteArray) (k : Nat) (hk : k < s.size) (hd : (s[k].toNat : Int) ≤ 57) :
    ∀ ty, (Instr.next (.pointer (some ⟨B, 0, none⟩)) true ty).run Try.prog (W.iter s k) = .ok (.tuple #[.bool true, .int .i64 (k : Int), .int .i32 (s[k].toNat : Int)]) (W.iter s (k + 1)) := by
  subst hB
  exact fun ty => run_next_ascii (P := Try.prog) W s k ty hk (by omega)
theorem next_end (W : World) (B : Nat) (hB : W.heap.size = B) (s : ByteArray) (k : Nat) (hk : ¬ k < s.size) :
    ∀ ty, (Instr.next (.pointer (some ⟨B, 0, none⟩)) true ty).run Try.prog (W.iter s k) = .ok (.tuple #[.bool false]) (W.iter s k) := by
  subst hB
  exact fun ty => run_next_end (P := Try.prog) W s k ty hk
theorem below_iter {B : Nat} {w W : World} (h : Below B w W) (hB : B ≤ W.heap.size) (s : ByteArray) (k : Nat) : Below B w (W.iter s k) := h.alloc hB _

set_option maxHeartbeats 400000 in
theorem scaled_main (s : ByteArray) (neg : Bool) (ex : Int) (p : Nat) (w : World) (ha : allD s.data.toList = true) (hp : s.size + p ≤ 5) :
    Calls Try.prog 16 #[.agg #[.bool neg, .string s, .int .i64 ex], .int .i64 (p : Int)] w fun e w' =>
      e = .returned (.tuple #[.int .i64 (dv s.data.toList * p10 p), .bool (decide (dv s.data.toList * p10 p ≤ 10000))]) ∧ Below w.heap.size w w' := by
  have HA : Hid (allD s.data.toList = true) := ha
  clear ha
  have hW : (w.alloc (Obj.cells #[Value.bool neg, Value.string s, Value.int IntKind.i64 ex] 32)).heap.size = w.heap.size + 1 := by simp
  have HW : Hid (Below w.heap.size w (w.alloc (Obj.cells #[Value.bool neg, Value.string s, Value.int IntKind.i64 ex] 32))) := (Below.refl _ _).alloc (Nat.le_refl _) _
  have hlen : s.data.toList.length = s.size := by simp
  have hsm := dv_p10_small s.data.toList p HA.out (by omega)
  have hD : dv s.data.toList < 100000 := by have := dv_p10_small s.data.toList 0 HA.out (by omega); simpa [p10] using this.2
  clear hlen
  go_enter Try.func16, Try.ntmps16
  go_wp2
  go_loopg [6] s.size (fun g n wr => ∃ k : Nat, k ≤ s.size ∧ g = s.size - k ∧ n = .int .i64 (dv (s.data.toList.take k)) ∧ wr = (w.alloc (Obj.cells #[Value.bool neg, Value.string s, Value.int IntKind.i64 ex] 32)).iter s k)
  case atStart => exact ⟨0, Nat.zero_le _, by omega, rfl, rfl⟩
  case round =>
    obtain ⟨k, hk, rfl, rfl, rfl⟩ := hrel
    have b1 := dv_bd _ (allD_take s.data.toList k HA.out)
    have b2 := dv_take_le s.data.toList k HA.out
    by_cases hlt : k < s.size
    · have hd := (isD_int _).1 (allD_at s k hlt HA.out)
      have HS : Hid (dv (s.data.toList.take (k + 1)) = dv (s.data.toList.take k) * 10 + ((s[k].toNat : Int) - 48)) := dv_succ s k hlt
      have b3 := dv_take_le s.data.toList (k + 1) HA.out
      have hnx := next_digit _ _ hW s k hlt hd.2
      obtain ⟨g1, g2⟩ := hd
      have b4 : dv (s.data.toList.take k) * 10 + ((s[k].toNat : Int) - 48) < 100000 := by rw [← HS.out]; omega
      have b5 := b1.1
      clear b1 b2 b3
      generalize dv (s.data.toList.take k) = n at *
      go_wp2
      go_roundg (s.size - (k + 1))
      case measure => omega
      case rel => exact ⟨k + 1, by omega, rfl, by rw [HS.out], rfl⟩
    · have hnx := next_end _ _ hW s k hlt
      have HE : Hid (dv (s.data.toList.take k) = dv s.data.toList) := by
        show _ = _
        rw [List.take_of_length_le (by simp; omega)]
      rw [HE.out]
      have c1 := (dv_bd _ HA.out).1
      clear b1 b2
      go_wp2
      go_loop [6, 28] (fun n i => ∃ j : Nat, j ≤ p ∧ i = .int .i64 j ∧ n = .int .i64 (dv s.data.toList * p10 j)) (fun _ i => p - (intOf i).toNat)
      case atStart => exact ⟨0, Nat.zero_le _, rfl, by simp [p10]⟩
      case round =>
        obtain ⟨j, hj, rfl, rfl⟩ := hrel
        have q1 := dv_p10_small s.data.toList j HA.out (by simp; omega)
        have HS : Hid (dv s.data.toList * p10 (j + 1) = dv s.data.toList * p10 j * 10) := by
          show dv s.data.toList * (p10 j * 10) = _
          rw [Int.mul_assoc]
        by_cases hjp : j < p
        · have q2 := dv_p10_small s.data.toList (j + 1) HA.out (by simp; omega)
          rw [HS.out] at q2
          clear hnx
          generalize dv s.data.toList * p10 j = q at *
          go_wp2
          go_round
          case rel => exact ⟨j + 1, by omega, by go_num, by rw [HS.out]⟩
          case measure => simp [intOf]; omega
        · obtain rfl : j = p := by omega
          clear hnx
          go_wp2
          go_ret2
          exact ⟨rfl, below_iter HW.out (by rw [hW]; omega) _ _⟩

theorem scaled_no (s : ByteArray) (neg : Bool) (ex : Int) (p : Int) (w : World) (hs : s.size ≤ 1048576) (hp0 : 0 ≤ p) (hp : p ≤ 9223372036853727231) (h5 : 5 < (s.size : Int) + p) :
    Calls Try.prog 16 #[.agg #[.bool neg, .string s, .int .i64 ex], .int .i64 p] w fun e w' =>
      e = .returned (.tuple #[.int .i64 0, .bool false]) ∧ Below w.heap.size w w' := by
  go_enter Try.func16, Try.ntmps16
  go_wp2
  go_ret2
  exact ⟨rfl, (Below.refl _ _).alloc (Nat.le_refl _) _⟩

/-! The door ZZdecimalScaled (11). -/
theorem zzScaled_of {s : ByteArray} {neg : Bool} {ex p : Int} {w : World} {v : Int} {b : Bool}
    (K : Calls Try.prog 16 #[.agg #[.bool neg, .string s, .int .i64 ex], .int .i64 p] w fun e w' => e = .returned (.tuple #[.int .i64 v, .bool b]) ∧ Below w.heap.size w w') :
    Calls Try.prog 11 #[.bool neg, .string s, .int .i64 ex, .int .i64 p] w fun e w' => e = .returned (.tuple #[.int .i64 v, .bool b]) ∧ Below w.heap.size w w' := by
  go_enter Try.func11, Try.ntmps11
  go_wp2_with (go_at_call 16; refine K.mono ?_; rintro e w' ⟨rfl, hb⟩)
  go_ret2
  exact ⟨rfl, hb⟩
end Go.Proofs.Qxb6601621a
