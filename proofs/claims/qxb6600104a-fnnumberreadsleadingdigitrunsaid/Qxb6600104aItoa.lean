/-
  The walk of zzItoa (17): a positive number below 10^18 in decimal, written from its end into twenty bytes of its own.
-/
import Derived.Test.Qxb6600104aDoor
import Derived.Test.Qxb6600104aPlain2
import Derived.Laws.IdiomStrings
namespace Go.Proofs.Qxb6600104a
open Go.RowKit
open Pl
set_option linter.unusedVariables false
set_option linter.unusedSimpArgs false

theorem addr_add (b o j : Nat) : (⟨b, o, none⟩ : Addr).add j = ⟨b, o + j, none⟩ := by unfold Addr.add; split <;> simp_all

/-- The twenty bytes at block B: from place m on they hold L; nothing below B has turned. -/
structure BufIs (B : Nat) (w wr : World) (m : Nat) (L : List UInt8) : Prop where
  len : m + L.length = 20
  cells : ∀ j, j < 20 → (wr.cell? ⟨B, j, none⟩).isSome = true
  free : ∀ j, wr.frozen? ⟨B, j, none⟩ = false
  put : ∀ t (h : t < L.length), wr.cell? ⟨B, m + t, none⟩ = some (.int .u8 (L[t].toNat : Int))
  bel : Below B w wr

theorem BufIs.step {B : Nat} {w wr : World} {m : Nat} {L : List UInt8} (h : BufIs B w wr (m + 1) L) (c : UInt8) (n : Int) (hn : n = (c.toNat : Int)) :
    BufIs B w (wr.setCell ⟨B, m, none⟩ (.int .u8 n)) m (c :: L) := by
  subst hn
  have hl := h.len
  have hm := h.cells m (by omega)
  obtain ⟨x, hx⟩ := Option.isSome_iff_exists.1 hm
  refine ⟨by simp; omega, fun j hj => ?_, fun j => ?_, fun t ht => ?_, h.bel.setCell (p := ⟨B, m, none⟩) (Nat.le_refl _) _⟩
  · by_cases e : j = m
    · subst e; rw [World.cell?_setCell_same _ _ _ hx]; rfl
    · rw [World.cell?_setCell_other _ _ _ _ (by simp [Ne.symm e])]; exact h.cells j hj
  · rw [World.frozen?_setCell]; exact h.free j
  · cases t with
    | zero => rw [Nat.add_zero, World.cell?_setCell_same _ _ _ hx]; rfl
    | succ t =>
      rw [World.cell?_setCell_other _ _ _ _ (by simp)]
      have := h.put t (by simpa using ht)
      rw [show m + (t + 1) = m + 1 + t by omega, this]
      rfl

theorem BufIs.start (w : World) (t : TypeId) : BufIs w.heap.size w (w.alloc (.cells #[.int .u8 0, .int .u8 0, .int .u8 0, .int .u8 0, .int .u8 0, .int .u8 0, .int .u8 0, .int .u8 0, .int .u8 0, .int .u8 0, .int .u8 0, .int .u8 0, .int .u8 0, .int .u8 0, .int .u8 0, .int .u8 0, .int .u8 0, .int .u8 0, .int .u8 0, .int .u8 0] t)) 20 [] := by
  refine ⟨rfl, fun j hj => ?_, fun j => new_free _ _ _ _, fun t ht => by simp at ht, (Below.refl _ _).alloc (Nat.le_refl _) _⟩
  rw [new_cell, Array.getElem?_eq_getElem (by simpa using hj)]
  rfl

theorem arrayLen39 : Try.prog.arrayLen 39 = 20 := by kernel_rfl
theorem slice20 (W : World) (B m : Nat) (h : m < 20) : (Instr.sliceAt 39 (.pointer (some ⟨B, 0, none⟩)) (some (.int .i64 (m : Int))) none none).run Try.prog W = .ok (.slice (some ⟨B, m, none⟩) (20 - m) (20 - m)) W := by
  rw [run_sliceAt_array_l W 39 ⟨B, 0, none⟩ (by simp [Program.arrayLen, Program.elem, Try.underlying39]) .i64 (m : Int) (by omega) (by rw [arrayLen39]; omega)]
  go_simp
  omega

set_option maxHeartbeats 400000 in
theorem itoa_any (v0 : Int) (w : World) (h1 : 1 ≤ v0) (h18 : v0 < 1000000000000000000) :
    Calls Try.prog 17 #[.int .i64 v0] w fun e w' => ∃ L : List UInt8, e = .returned (.string ⟨L.toArray⟩) ∧ Hid (Wr v0 0 L) ∧ Below w.heap.size w w' := by
  go_enter Try.func17, Try.ntmps17
  go_wp2
  go_loopw [0, 4] (fun a i wr => ∃ (v : Int) (m : Nat) (L : List UInt8), a = .int .i64 v ∧ i = .int .i64 m ∧ Hid (Wr v0 v L) ∧ v < 1000000000000000000 ∧ BufIs w.heap.size w wr m L) (fun a _ _ => (intOf a).toNat)
  case atStart => exact ⟨v0, 20, [], rfl, rfl, Wr.start v0 (by omega), h18, BufIs.start w _⟩
  case round =>
    obtain ⟨v, m, L, rfl, rfl, hwr, hv18, hbuf⟩ := hrel
    have hv0 := hwr.out.pos
    by_cases hv : 0 < v
    · have hs := hwr.out.short hv h18
      have hl := hbuf.len
      obtain ⟨m', rfl⟩ : ∃ m', m = m' + 1 := ⟨m - 1, by omega⟩
      obtain ⟨x, hx⟩ := Option.isSome_iff_exists.1 (hbuf.cells m' (by omega))
      have hf := hbuf.free m'
      have W1 : Hid (Wr v0 (v / 10) (dbyte v :: L)) := hwr.out.step hv
      have W2 := hbuf.step (dbyte v) (48 + v % 10) (dbyte_toNat v).symm
      have hm19 : m' < 20 := by omega
      clear hwr hbuf hl hs
      go_wp2
      go_roundw
      case rel => exact ⟨v / 10, m', dbyte v :: L, rfl, by go_num, W1, by omega, W2⟩
      case measure => simp [intOf]; omega
    · obtain rfl : v = 0 := by omega
      have hl := hbuf.len
      have hput := hbuf.put
      have hbel := hbuf.bel
      have hcv : (convert 28 9 (.slice (some ⟨w.heap.size, m, none⟩) (20 - m) (20 - m))).run Try.prog wr = .ok (.string ⟨L.toArray⟩) wr := by
        have e : 20 - m = L.length := by omega
        rw [e]
        exact run_convert_bytes_back wr 28 9 5 ⟨w.heap.size, m, none⟩ _ L Try.underlying28 Try.underlying5 Try.underlying9 (fun j hj => by rw [addr_add]; exact hput j hj)
      have hlp : 1 ≤ L.length := (hwr.out.done h18).2.2.1
      have hsl : ∀ W, (Instr.sliceAt 39 (.pointer (some ⟨w.heap.size, 0, none⟩)) (some (.int .i64 (m : Int))) none none).run Try.prog W = .ok (.slice (some ⟨w.heap.size, m, none⟩) (20 - m) (20 - m)) W :=
        fun W => slice20 W w.heap.size m (by omega)
      clear hput hbuf hl hlp
      go_wp2
      go_ret
      exact ⟨L, rfl, hwr, hbel⟩
end Go.Proofs.Qxb6600104a
