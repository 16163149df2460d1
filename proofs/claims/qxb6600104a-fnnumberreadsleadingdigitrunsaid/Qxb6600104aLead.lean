/-
  The walk of the law FnNumberReadsLeadingDigitRun (5).
-/
import Derived.Test.Qxb6600104aCopied
import Derived.Test.Qxb6600104aOrders
namespace Go.Proofs.Qxb6600104a
open Go.RowKit
open Pl
set_option linter.unusedVariables false

set_option maxHeartbeats 800000 in
/-- rest is nil. -/
theorem lead_nil (ok : Bool) (line : ByteArray) (w : World) (h2 : line.size ≤ 1048576) :
    Calls Try.prog 5 #[.slice none 0 0, .bool ok, .string line] w fun e w' => e = .returned (.bool true) ∧ Below w.heap.size w w' := by
  have hne := fun W => run_neq_slice_nil_any (P := Try.prog) W 28 5 none 0 0 0 0 Try.underlying28
  have K := zzNumber_none none 0 ok line w
  cases ok
  all_goals
    go_enter Try.func5, Try.ntmps5
    go_wp2_with (first | (go_at_call 13; go_in))
    go_loop [8] (fun i => i = .int .i64 0) (fun i => 0)
    case atStart => exact rfl
    case round =>
      obtain rfl := hrel
      go_wp2_with (first | (go_at_call 14; refine K.mono ?_; rintro e w1 ⟨rfl, hb⟩) | (go_at_call 15; refine (same_zero _ _ _ _ _).mono ?_; rintro e w2 ⟨rfl, n, rfl⟩))
      go_ret
      exact ⟨rfl, below_drewN hb _⟩

set_option maxHeartbeats 800000 in
/-- rest is empty, but not nil. -/
theorem lead_empty (x : Addr) (cap : Nat) (ok : Bool) (line : ByteArray) (w : World) (h2 : line.size ≤ 1048576) :
    Calls Try.prog 5 #[.slice (some x) 0 cap, .bool ok, .string line] w fun e w' => e = .returned (.bool true) ∧ Below w.heap.size w w' := by
  have hne := fun W => run_neq_slice_nil_any (P := Try.prog) W 28 5 (some x) 0 cap 0 0 Try.underlying28
  obtain ⟨W1, hmk, hb1, hs1, _, _⟩ := made w 0 (by omega)
  have hcp := fun ty => run_copy_none (P := Try.prog) W1 28 28 ty 5 (some ⟨w.heap.size, 0, none⟩) (some x) 0 0 0 cap Try.underlying28 size5 rfl
  have K := zzNumber_none (some ⟨w.heap.size, 0, none⟩) 0 ok line W1
  simp only [Int.natCast_zero] at hmk
  cases ok
  all_goals
    go_enter Try.func5, Try.ntmps5
    go_wp2_with (first | (go_at_call 13; go_in))
    go_loop [8] (fun i => i = .int .i64 0) (fun i => 0)
    case atStart => exact rfl
    case round =>
      obtain rfl := hrel
      go_wp2_with (first | (go_at_call 14; refine K.mono ?_; rintro e w1 ⟨rfl, hb⟩) | (go_at_call 15; refine (same_zero _ _ _ _ _).mono ?_; rintro e w2 ⟨rfl, n, rfl⟩))
      go_ret
      exact ⟨rfl, below_drewN (hb1.trans (hb.mono (by omega))) _⟩
end Go.Proofs.Qxb6600104a
