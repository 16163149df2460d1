/-
  THE CUT's HEAD, READ ONCE. Three of the row's closed facts ('make', 'liftsFinal', 'mayEnter') read the words of the program's own head, a long string; left to the kernel each wants much time and memory. Here the string is opened by its theorem (String.toList_ofList), its first word behind the harness is read once, and the three facts follow.
-/
import Derived.Test.Qxb6600104aProg
import Derived.ProofKit
namespace Go.Proofs.Qxb6600104a
set_option linter.unusedVariables false

theorem toList_lit (s : String) (l : List Char) (h : s = String.ofList l) : s.toList = l := by rw [h, String.toList_ofList]
theorem of_head {l : List (List Char)} (h : (match l with | c :: _ => c == "cut".toList | _ => false) = true) : ∃ rest, l = "cut".toList :: rest := by
  match l, h with
  | c :: rest, h => exact ⟨rest, by rw [beq_iff_eq.1 h]⟩
set_option maxRecDepth 1000000 in
theorem head_cut : ∃ rest, behindMainWord (wordsSigns Try.prog.initOrder.toList) = "cut".toList :: rest := by
  have h := toList_lit Try.prog.initOrder _ rfl
  rw [h]
  clear h
  refine of_head ?_
  show _ = _
  kernel_rfl
theorem mk_of {P : Program} (h : ∃ rest, behindMainWord (wordsSigns P.initOrder.toList) = "cut".toList :: rest) : P.make = some .cut := by
  obtain ⟨rest, h⟩ := h
  unfold Program.make
  rw [h]
  rfl
theorem lift_of {P : Program} (h : ∃ rest, behindMainWord (wordsSigns P.initOrder.toList) = "cut".toList :: rest) : P.liftsFinal = false := by
  obtain ⟨rest, h⟩ := h
  unfold Program.liftsFinal Program.headLifts
  rw [h]
  rfl
theorem enter_of {P : Program} (h : ∃ rest, behindMainWord (wordsSigns P.initOrder.toList) = "cut".toList :: rest) (h1 : P.laysLater = false) (h2 : P.bearsReflect = false) (h3 : P.doorFits [] = true) : P.mayEnter = true := by
  obtain ⟨rest, h⟩ := h
  unfold Program.mayEnter
  rw [h]
  have e : stripLifts liftWords ("cut".toList :: rest) = ([], "cut".toList :: rest) := rfl
  simp only [e, h1, h2, h3]
  rfl
theorem make_is : Try.prog.make = some .cut := mk_of head_cut
theorem lifts_is : Try.prog.liftsFinal = false := lift_of head_cut
theorem enter_is : Try.prog.mayEnter = true := enter_of head_cut (by kernel_rfl) (by kernel_rfl) (by kernel_rfl)
end Go.Proofs.Qxb6600104a
