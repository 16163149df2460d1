/-
  The walks of isDigit (34), isLetter (35), isUpper (36); '[]byte(s)'.
-/
import Derived.Test.Qxb6600171aProg
import Derived.Test.Qxb6600171aPlain
import Derived.WalkKit
import Derived.WalkSpells
import Derived.WalkLawsBesides
import Derived.WalkSmall
import Derived.Laws.IdiomStrings
namespace Go.Proofs.Qxb6600171a
open Go.RowKit
open Pl
set_option linter.unusedVariables false

theorem ret_bool {a b : Bool} (h : a = b) : Ending.returned (.bool a) = .returned (.bool b) := by rw [h]
theorem ret_string {a b : ByteArray} (h : a = b) : Ending.returned (.string a) = .returned (.string b) := by rw [h]

theorem isDigit_any (c : Int) (w : World) : Calls Try.prog 34 #[.int .u8 c] w fun e w' => e = .returned (.bool (dgB c)) ∧ w' = w := by
  have hq : (48 ≤ c ∧ c ≤ 57) ∨ c < 48 ∨ 57 < c := by omega
  rcases hq with ⟨h1, h2⟩ | h1 | h1
  · have H : Hid (dgB c = true) := (dgB_iff c).2 ⟨h1, h2⟩
    go_enter Try.func34, Try.ntmps34
    go_wp2
    go_ret
    exact ⟨ret_bool (by first | exact H.out.symm | (rw [H.out]; simp; omega)), rfl⟩
  all_goals
    have H : Hid (dgB c = false) := (dgB_no c).2 (by omega)
    go_enter Try.func34, Try.ntmps34
    go_wp2
    go_ret
    exact ⟨ret_bool (by first | exact H.out.symm | (rw [H.out]; simp; omega)), rfl⟩

theorem isUpper_any (c : Int) (w : World) : Calls Try.prog 36 #[.int .u8 c] w fun e w' => e = .returned (.bool (upB c)) ∧ w' = w := by
  have hq : (65 ≤ c ∧ c ≤ 90) ∨ c < 65 ∨ 90 < c := by omega
  rcases hq with ⟨h1, h2⟩ | h1 | h1
  · have H : Hid (upB c = true) := (upB_iff c).2 ⟨h1, h2⟩
    go_enter Try.func36, Try.ntmps36
    go_wp2
    go_ret
    exact ⟨ret_bool (by first | exact H.out.symm | (rw [H.out]; simp; omega)), rfl⟩
  all_goals
    have H : Hid (upB c = false) := (upB_no c).2 (by omega)
    go_enter Try.func36, Try.ntmps36
    go_wp2
    go_ret
    exact ⟨ret_bool (by first | exact H.out.symm | (rw [H.out]; simp; omega)), rfl⟩

theorem isLetter_any (c : Int) (w : World) : Calls Try.prog 35 #[.int .u8 c] w fun e w' => e = .returned (.bool (leB c)) ∧ w' = w := by
  have hq : (65 ≤ c ∧ c ≤ 90) ∨ (97 ≤ c ∧ c ≤ 122) ∨ c < 65 ∨ (90 < c ∧ c < 97) ∨ 122 < c := by omega
  rcases hq with ⟨h1, h2⟩ | ⟨h1, h2⟩ | h1 | ⟨h1, h2⟩ | h1
  · have H : Hid (leB c = true) := (leB_iff c).2 (by omega)
    go_enter Try.func35, Try.ntmps35
    go_wp2
    go_ret
    exact ⟨ret_bool (by first | exact H.out.symm | (rw [H.out]; simp; omega)), rfl⟩
  · have H : Hid (leB c = true) := (leB_iff c).2 (by omega)
    go_enter Try.func35, Try.ntmps35
    go_wp2
    go_ret
    exact ⟨ret_bool (by first | exact H.out.symm | (rw [H.out]; simp; omega)), rfl⟩
  all_goals
    have H : Hid (leB c = false) := (leB_no c).2 (by omega)
    go_enter Try.func35, Try.ntmps35
    go_wp2
    go_ret
    exact ⟨ret_bool (by first | exact H.out.symm | (rw [H.out]; simp; omega)), rfl⟩

/-- '[]byte(s)': some world with the bytes in a new block. -/
theorem toBytes (w : World) (s : ByteArray) : ∃ (c : Nat) (W : World), (convert 9 27 (.string s)).run Try.prog w = .ok (.slice (some ⟨w.heap.size, 0, none⟩) s.size c) W ∧ s.size ≤ c ∧ Below w.heap.size w W ∧ w.heap.size < W.heap.size ∧
    (∀ i, i < s.size → W.cell? ⟨w.heap.size, i, none⟩ = some (.int .u8 (zOf s.data.toList i))) ∧ ∀ i, i < s.size → W.frozen? ⟨w.heap.size, i, none⟩ = false := by
  have R := run_bytes_of_string (P := Try.prog) w 9 27 5 s Try.underlying9 Try.underlying27 Try.underlying5
  refine ⟨_, _, R, grownCap_ge _ _ _ _, ((Below.refl _ _).drew).alloc (Nat.le_refl _) _, by show w.heap.size < (w.heap.push _).size; simp, fun i hi => ?_, fun i hi => ?_⟩
  · have := World.cell?_alloc_mark w.drew (bytesRow s (grownCap w s.size 0 5)) 5 ((bytesRow s (grownCap w s.size 0 5)).size, (bytesRow s (grownCap w s.size 0 5)).size + 1) i
    refine Eq.trans this ?_
    rw [bytesRow_at s _ i (by simpa using hi), zOf_at _ _ (by simpa using hi)]
    rfl
  · have := World.frozen?_alloc_mark w.drew (bytesRow s (grownCap w s.size 0 5)) 5 (bytesRow s (grownCap w s.size 0 5)).size ((bytesRow s (grownCap w s.size 0 5)).size + 1) i
    refine Eq.trans this ?_
    have hle : i < (bytesRow s (grownCap w s.size 0 5)).size := by
      unfold bytesRow
      rw [Array.size_append, Array.size_map]
      have : s.data.size = s.size := rfl
      omega
    simp; omega
end Go.Proofs.Qxb6600171a
