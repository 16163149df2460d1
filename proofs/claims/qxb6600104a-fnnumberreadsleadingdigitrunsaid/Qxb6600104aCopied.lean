/-
  make and copy in FnNumberReadsLeadingDigitRun (5): the bytes lie in a new block.
-/
import Derived.Test.Qxb6600104aSame
import Derived.Laws.IdiomCopy
namespace Go.Proofs.Qxb6600104a
open Go.RowKit
open Pl
set_option linter.unusedVariables false

theorem info5 : (Try.prog.info? 5).map (fun i => (i.zero, i.size, i.bytes)) = some (some (.int .u8 0), 1, 1) := by kernel_rfl
theorem size5 : (Try.prog.info? 5).map (·.size) = some 1 := by kernel_rfl

/-- 'make([]byte, len)': some world with a new block at the end of the heap. -/
theorem made (w : World) (len : Nat) (h : len ≤ 1048576) : ∃ W1 : World, (Instr.makeSlice 28 (.int .i64 (len : Int)) (.int .i64 (len : Int))).run Try.prog w = .ok (.slice (some ⟨w.heap.size, 0, none⟩) len len) W1 ∧
    Below w.heap.size w W1 ∧ w.heap.size < W1.heap.size ∧ (∀ j, j < len → (W1.cell? ⟨w.heap.size, j, none⟩).isSome = true) ∧ ∀ j, W1.frozen? ⟨w.heap.size, j, none⟩ = false := by
  obtain ⟨i0, hi, hz0, hz1, hz2⟩ := info_parts info5
  have R := run_make w 28 5 i0 (.int .u8 0) Try.underlying28 hi hz0 .i64 .i64 (len : Int) (len : Int) (by omega) (by omega) (by rw [hz2]; omega) (by omega)
  rw [Int.toNat_natCast, hz1, Nat.mul_one] at R
  refine ⟨_, R, (Below.refl _ _).alloc (Nat.le_refl _) _, by simp, fun j hj => ?_, fun j => new_free _ _ _ _⟩
  rw [new_cell, Array.getElem?_eq_getElem (by rw [size_madeCells]; exact hj)]
  rfl

theorem below_setCells (B b : Nat) (hb : B ≤ b) (w : World) : ∀ (vs : List Value) (o : Nat) (W : World), Below B w W → Below B w (W.setCells b o vs)
  | [], _, _, h => h
  | v :: r, o, W, h => below_setCells B b hb w r (o + 1) _ (h.setCell (p := ⟨b, o, none⟩) hb v)
theorem size_setCells (b : Nat) : ∀ (vs : List Value) (o : Nat) (W : World), (W.setCells b o vs).heap.size = W.heap.size
  | [], _, _ => rfl
  | v :: r, o, W => (size_setCells b r (o + 1) _).trans (by simp [World.setCell])

/-- 'copy(c, rest)', both of len bytes: the new block holds them. -/
theorem copied (w W1 : World) (b off cap len : Nat) (z : Nat → Int) (hb : b < w.heap.size) (hz : ∀ i, i < len → w.cell? ⟨b, off + i, none⟩ = some (.int .u8 (z i)))
    (hbel : Below w.heap.size w W1) (hsz : w.heap.size < W1.heap.size) (hc : ∀ j, j < len → (W1.cell? ⟨w.heap.size, j, none⟩).isSome = true) (hf : ∀ j, W1.frozen? ⟨w.heap.size, j, none⟩ = false) :
    ∃ W2 : World, (∀ ty, (Builtin.copy_ #[28, 28] ty #[.slice (some ⟨w.heap.size, 0, none⟩) len len, .slice (some ⟨b, off, none⟩) len cap]).run Try.prog W1 = .ok (goInt len) W2) ∧
      Below w.heap.size w W2 ∧ w.heap.size < W2.heap.size ∧ ∀ i, i < len → W2.cell? ⟨w.heap.size, 0 + i, none⟩ = some (.int .u8 (z i)) := by
  have hl : ((List.range len).map (fun i => Value.int .u8 (z i))).length = len := by simp
  refine ⟨W1.setCells w.heap.size 0 ((List.range len).map (fun i => Value.int .u8 (z i))), fun ty => ?_, below_setCells _ _ (Nat.le_refl _) _ _ _ _ hbel, ?_, fun i hi => ?_⟩
  · have R := run_copy_cells (P := Try.prog) W1 28 28 ty 5 w.heap.size 0 len len ⟨b, off, none⟩ len cap ((List.range len).map (fun i => Value.int .u8 (z i))) Try.underlying28 size5 (by simp)
      (fun j v hj => by
        have hjl : j < len := by
          have := (List.getElem?_eq_some_iff.1 hj).1
          simpa using this
        rw [addr_add, hbel.cell (p := ⟨b, off + j, none⟩) hb, hz j hjl]
        simp [hjl] at hj
        rw [hj])
      (fun j hj => by rw [Nat.zero_add]; exact hc j (by simpa using hj)) (fun j hj => hf _) (fun v hv => by
        obtain ⟨i, _, rfl⟩ := List.mem_map.1 hv
        rfl)
    rw [hl] at R
    exact R
  · rw [size_setCells]; exact hsz
  · have := World.cell?_setCells_in w.heap.size ((List.range len).map (fun i => Value.int .u8 (z i))) 0 W1 (fun j hj => by rw [Nat.zero_add]; exact hc j (by simpa using hj)) i (by simpa using hi)
    rw [this]
    simp
end Go.Proofs.Qxb6600104a
