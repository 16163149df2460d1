/-
  The walk of the law FnValidNameMatchesAlphabetModel (7).
-/
import Derived.Test.Qxb6600171aName
import Derived.Test.Qxb6600171aModel
namespace Go.Proofs.Qxb6600171a
open Go.RowKit
open Pl
set_option linter.unusedVariables false

theorem zzName_any (s : ByteArray) (w : World) (hs : s.size ≤ maxLen) :
    Calls Try.prog 20 #[.string s] w fun e w' => e = .returned (.bool (nameB s.data.toList)) ∧ Below w.heap.size w w' := by
  have K := validName_any s w hs
  go_enter Try.func20, Try.ntmps20
  go_wp2_with (go_at_call 32; refine K.mono ?_; rintro e w' ⟨rfl, hb⟩)
  go_ret
  exact ⟨rfl, hb⟩

theorem name_walk (a0 : ByteArray) (w0 : a0.size ≤ maxLen) (w : World) :
    Calls Try.prog 7 #[.string a0] w fun e w' => e = .returned (.bool true) ∧ Below w.heap.size w w' := by
  have K := zzName_any a0 w w0
  have M := fun W => modelName_any a0 W w0
  unfold maxLen at w0
  by_cases c0 : 1048576 < a0.size
  · go_enter Try.func7, Try.ntmps7
    go_wp2
    go_ret
    exact ⟨rfl, Below.refl _ _⟩
  generalize nameB a0.data.toList = b at *
  go_enter Try.func7, Try.ntmps7
  go_wp2_with (first | (go_at_call 20; refine K.mono ?_; rintro e w1 ⟨rfl, hb⟩) | (go_at_call 22; refine (M _).mono ?_; rintro e w2 ⟨rfl, rfl⟩) | (go_at_call 21; go_in))
  go_ret
  exact ⟨ret_bool (by simp), hb⟩
end Go.Proofs.Qxb6600171a
