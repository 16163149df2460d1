/-
  The walk of validID (28) and its door (13).
-/
import Derived.Test.Qxb6600171aLower
namespace Go.Proofs.Qxb6600171a
open Go.RowKit
open Pl
set_option linter.unusedVariables false

/-- The places of the four hyphens. -/
def hy (i : Nat) : Prop := i = 8 ∨ i = 13 ∨ i = 18 ∨ i = 23
/-- A hexadecimal digit. -/
def hexC (c : Int) : Prop := (48 ≤ c ∧ c ≤ 57) ∨ (65 ≤ c ∧ c ≤ 70) ∨ (97 ≤ c ∧ c ≤ 102)
/-- What may stand at place i of an id. -/
def OkAt (i : Nat) (c : Int) : Prop := (hy i → c = 45) ∧ (¬ hy i → hexC c)

theorem or32 (c : Int) (h : (65 ≤ c ∧ c ≤ 70) ∨ (97 ≤ c ∧ c ≤ 102)) : 97 ≤ bits BinOp.or IntKind.u8 c 32 ∧ bits BinOp.or IntKind.u8 c 32 ≤ 102 := by
  have hq : c = 65 ∨ c = 66 ∨ c = 67 ∨ c = 68 ∨ c = 69 ∨ c = 70 ∨ c = 97 ∨ c = 98 ∨ c = 99 ∨ c = 100 ∨ c = 101 ∨ c = 102 := by omega
  rcases hq with rfl | rfl | rfl | rfl | rfl | rfl | rfl | rfl | rfl | rfl | rfl | rfl <;> decide

/-- A text of another length is no id. -/
theorem id_size (s : ByteArray) (w : World) (hs : s.size ≤ maxLen) (h : s.size ≠ 36) :
    Calls Try.prog 28 #[.string s] w fun e w' => e = .returned (.bool false) ∧ Below w.heap.size w w' := by
  unfold maxLen at hs
  have h36 : ((s.size : Int) != 36) = true := by rw [bne_iff_ne]; omega
  go_enter Try.func28, Try.ntmps28
  go_wp2
  go_ret
  exact ⟨rfl, Below.refl _ _⟩

set_option maxHeartbeats 800000 in
theorem id_yes (s : ByteArray) (w : World) (hs : s.size = 36) (hok : ∀ i, i < 36 → OkAt i (zOf s.data.toList i)) :
    Calls Try.prog 28 #[.string s] w fun e w' => e = .returned (.bool true) ∧ Below w.heap.size w w' := by
  have h36 : ((s.size : Int) != 36) = false := by rw [hs]; rfl
  obtain ⟨cp, W, hcv, hcp, hbel, hsize, hcell, _⟩ := toBytes w s
  rw [hs] at hcv hcp hcell
  generalize zOf s.data.toList = z at *
  clear hs
  go_enter Try.func28, Try.ntmps28
  go_wp2
  go_loop [12] (fun i => ∃ k : Nat, k ≤ 36 ∧ i = .int .i64 k) (fun i => 36 - (intOf i).toNat)
  case atStart => exact ⟨0, by omega, rfl⟩
  case round =>
    obtain ⟨k, hk, rfl⟩ := hrel
    clear hcv h36
    by_cases hlt : k < 36
    · have hc := hcell k hlt
      have ho := hok k hlt
      clear hcell hok
      generalize z k = c at *
      by_cases hh : hy k
      · have hc45 := ho.1 hh
        subst hc45
        clear ho
        unfold hy at hh
        rcases hh with rfl | rfl | rfl | rfl
        all_goals
          go_wp2
          go_round
          case rel => first | exact ⟨9, by omega, rfl⟩ | exact ⟨14, by omega, rfl⟩ | exact ⟨19, by omega, rfl⟩ | exact ⟨24, by omega, rfl⟩
          case measure => simp [intOf]
      · have hx := ho.2 hh
        have e1 : ((k : Int) == 8) = false := by rw [beq_eq_false_iff_ne]; intro e; exact hh (.inl (by omega))
        have e2 : ((k : Int) == 13) = false := by rw [beq_eq_false_iff_ne]; intro e; exact hh (.inr (.inl (by omega)))
        have e3 : ((k : Int) == 18) = false := by rw [beq_eq_false_iff_ne]; intro e; exact hh (.inr (.inr (.inl (by omega))))
        have e4 : ((k : Int) == 23) = false := by rw [beq_eq_false_iff_ne]; intro e; exact hh (.inr (.inr (.inr (by omega))))
        clear ho hh
        by_cases hd : dgB c = true
        · clear hx
          go_wp2_with (go_at_call 34; refine (isDigit_any _ _).mono ?_; rintro e w' ⟨rfl, rfl⟩)
          go_round
          case rel => exact ⟨k + 1, by omega, by go_num⟩
          case measure => simp [intOf]; omega
        · have hd' : dgB c = false := by simpa using hd
          have hn := (dgB_no c).1 hd'
          obtain ⟨b1, b2⟩ := or32 c (by unfold hexC at hx; omega)
          clear hx hd hn
          go_wp2_with (go_at_call 34; refine (isDigit_any _ _).mono ?_; rintro e w' ⟨rfl, rfl⟩)
          go_round
          case rel => exact ⟨k + 1, by omega, by go_num⟩
          case measure => simp [intOf]; omega
    · clear hcell hok
      go_wp2
      go_ret
      exact ⟨rfl, hbel⟩

set_option maxHeartbeats 800000 in
/-- A text with the letter g at place p is no id. -/
theorem id_g (s : ByteArray) (w : World) (hs : s.size = 36) (p : Nat) (hp : p < 36) (hg : zOf s.data.toList p = 103) (hok : ∀ i, i < p → OkAt i (zOf s.data.toList i)) :
    Calls Try.prog 28 #[.string s] w fun e w' => e = .returned (.bool false) ∧ Below w.heap.size w w' := by
  have h36 : ((s.size : Int) != 36) = false := by rw [hs]; rfl
  obtain ⟨cp, W, hcv, hcp, hbel, hsize, hcell, _⟩ := toBytes w s
  rw [hs] at hcv hcp hcell
  have HG : Hid (zOf s.data.toList p = 103) := hg
  clear hs hg
  generalize zOf s.data.toList = z at *
  go_enter Try.func28, Try.ntmps28
  go_wp2
  go_loop [12] (fun i => ∃ k : Nat, k ≤ p ∧ i = .int .i64 k) (fun i => p - (intOf i).toNat)
  case atStart => exact ⟨0, by omega, rfl⟩
  case round =>
    obtain ⟨k, hk, rfl⟩ := hrel
    clear hcv h36
    have hlt : k < 36 := by omega
    have hc := hcell k hlt
    by_cases hkp : k < p
    · have ho := hok k hkp
      clear hcell hok HG
      generalize z k = c at *
      by_cases hh : hy k
      · have hc45 := ho.1 hh
        subst hc45
        clear ho
        unfold hy at hh
        rcases hh with rfl | rfl | rfl | rfl
        all_goals
          go_wp2
          go_round
          case rel => first | exact ⟨9, by omega, rfl⟩ | exact ⟨14, by omega, rfl⟩ | exact ⟨19, by omega, rfl⟩ | exact ⟨24, by omega, rfl⟩
          case measure => simp [intOf]; omega
      · have hx := ho.2 hh
        have e1 : ((k : Int) == 8) = false := by rw [beq_eq_false_iff_ne]; intro e; exact hh (.inl (by omega))
        have e2 : ((k : Int) == 13) = false := by rw [beq_eq_false_iff_ne]; intro e; exact hh (.inr (.inl (by omega)))
        have e3 : ((k : Int) == 18) = false := by rw [beq_eq_false_iff_ne]; intro e; exact hh (.inr (.inr (.inl (by omega))))
        have e4 : ((k : Int) == 23) = false := by rw [beq_eq_false_iff_ne]; intro e; exact hh (.inr (.inr (.inr (by omega))))
        clear ho hh
        by_cases hd : dgB c = true
        · clear hx
          go_wp2_with (go_at_call 34; refine (isDigit_any _ _).mono ?_; rintro e w' ⟨rfl, rfl⟩)
          go_round
          case rel => exact ⟨k + 1, by omega, by go_num⟩
          case measure => simp [intOf]; omega
        · have hd' : dgB c = false := by simpa using hd
          have hn := (dgB_no c).1 hd'
          obtain ⟨b1, b2⟩ := or32 c (by unfold hexC at hx; omega)
          clear hx hd hn
          go_wp2_with (go_at_call 34; refine (isDigit_any _ _).mono ?_; rintro e w' ⟨rfl, rfl⟩)
          go_round
          case rel => exact ⟨k + 1, by omega, by go_num⟩
          case measure => simp [intOf]; omega
    · have ek : k = p := by omega
      subst ek
      rw [HG.out] at hc
      clear hcell hok HG
      have hd : dgB 103 = false := rfl
      have hb1 : ¬ bits BinOp.or IntKind.u8 103 32 < 97 := by decide
      have hb2 : 102 < bits BinOp.or IntKind.u8 103 32 := by decide
      by_cases hh : hy k
      · unfold hy at hh
        rcases hh with rfl | rfl | rfl | rfl
        all_goals
          go_wp2
          go_ret
          exact ⟨rfl, hbel⟩
      · have e1 : ((k : Int) == 8) = false := by rw [beq_eq_false_iff_ne]; intro e; exact hh (.inl (by omega))
        have e2 : ((k : Int) == 13) = false := by rw [beq_eq_false_iff_ne]; intro e; exact hh (.inr (.inl (by omega)))
        have e3 : ((k : Int) == 18) = false := by rw [beq_eq_false_iff_ne]; intro e; exact hh (.inr (.inr (.inl (by omega))))
        have e4 : ((k : Int) == 23) = false := by rw [beq_eq_false_iff_ne]; intro e; exact hh (.inr (.inr (.inr (by omega))))
        clear hh
        go_wp2_with (go_at_call 34; refine (isDigit_any _ _).mono ?_; rintro e w' ⟨rfl, rfl⟩)
        go_ret
        exact ⟨rfl, hbel⟩

/-! The door ZZvalidID (13). -/
theorem zzId_of {s : ByteArray} {w : World} {b : Bool} (K : Calls Try.prog 28 #[.string s] w fun e w' => e = .returned (.bool b) ∧ Below w.heap.size w w') :
    Calls Try.prog 13 #[.string s] w fun e w' => e = .returned (.bool b) ∧ Below w.heap.size w w' := by
  go_enter Try.func13, Try.ntmps13
  go_wp2_with (go_at_call 28; refine K.mono ?_; rintro e w' ⟨rfl, hb⟩)
  go_ret
  exact ⟨rfl, hb⟩
end Go.Proofs.Qxb6600171a
