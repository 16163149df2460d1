/-
  The walk of ZZNumber (14): a scanner is laid, number is called once, the scanner's fields are handed back.
-/
import Derived.Test.Qxb6600104aNumber2
import Derived.Deep.QuietTactic
import Derived.BigQuiet
import Derived.WalkSmall
namespace Go.Proofs.Qxb6600104a
open Go.RowKit
open Pl
set_option linter.unusedVariables false

theorem new_cell (w : World) (C : Array Value) (t : TypeId) (i : Nat) : (w.alloc (.cells C t)).cell? ⟨w.heap.size, i, none⟩ = C[i]? := by simp
theorem new_free (w : World) (C : Array Value) (t : TypeId) (i : Nat) : (w.alloc (.cells C t)).frozen? ⟨w.heap.size, i, none⟩ = false := by simp
theorem old_cell (w : World) (o : Obj) (b i : Nat) (h : b < w.heap.size) : (w.alloc o).cell? ⟨b, i, none⟩ = w.cell? ⟨b, i, none⟩ := World.cell?_alloc_lt _ _ _ h

/-- The scanner's block behind the call. -/
theorem number_ok_in (p rb off len cap d : Nat) (z : Nat → Int) (w : World) (line : ByteArray) (hlen : len ≤ cap) (hcap : len ≤ maxLen)
    (h0 : w.cell? ⟨p, 0, none⟩ = some (.slice (some ⟨rb, off, none⟩) len cap)) (h1 : w.cell? ⟨p, 1, none⟩ = some (.bool true)) (h2 : w.cell? ⟨p, 2, none⟩ = some (.string line)) (f0 : w.frozen? ⟨p, 0, none⟩ = false)
    (hz : ∀ i, i < len → w.cell? ⟨rb, off + i, none⟩ = some (.int .u8 (z i)))
    (hd1 : 1 ≤ d) (hd18 : d ≤ 18) (hdl : d ≤ len) (hdig : ∀ i, i < d → 48 ≤ z i ∧ z i ≤ 57) (hnz : (z 0 == 48) = false)
    (hend : d = len ∨ (d < len ∧ (z d < 48 ∨ 57 < z d))) (hb : ∀ k, k ≤ d → 0 ≤ dz z k ∧ dz z k < 1000000000000000000) :
    Calls Try.prog 19 #[.pointer (some ⟨p, 0, none⟩)] w fun e w' => e = .returned (.int .i64 (dz z d)) ∧ ∃ o c, Hid (d < len → o = off + d) ∧ w'.cell? ⟨p, 0, none⟩ = some (.slice (some ⟨rb, o, none⟩) (len - d) c) ∧
      w'.cell? ⟨p, 1, none⟩ = some (.bool true) ∧ w'.cell? ⟨p, 2, none⟩ = some (.string line) ∧ Below p w w' := by
  refine (number_ok p rb off len cap d z w hlen hcap h0 h1 f0 hz hd1 hd18 hdl hdig hnz hend hb).mono ?_
  rintro e w' ⟨rfl, o, c, ho, rfl⟩
  refine ⟨rfl, o, c, ho, World.cell?_setCell_same _ _ _ h0, ?_, ?_, (Below.refl p w).setCell (p := ⟨p, 0, none⟩) (Nat.le_refl _) _⟩
  · rw [World.cell?_setCell_other _ _ _ _ (by simp)]; exact h1
  · rw [World.cell?_setCell_other _ _ _ _ (by simp)]; exact h2

theorem zzNumber_ok (rb off len cap d : Nat) (z : Nat → Int) (w : World) (line : ByteArray) (hlen : len ≤ cap) (hcap : len ≤ maxLen) (hrb : rb < w.heap.size)
    (hz : ∀ i, i < len → w.cell? ⟨rb, off + i, none⟩ = some (.int .u8 (z i)))
    (hd1 : 1 ≤ d) (hd18 : d ≤ 18) (hdl : d ≤ len) (hdig : ∀ i, i < d → 48 ≤ z i ∧ z i ≤ 57) (hnz : (z 0 == 48) = false)
    (hend : d = len ∨ (d < len ∧ (z d < 48 ∨ 57 < z d))) (hb : ∀ k, k ≤ d → 0 ≤ dz z k ∧ dz z k < 1000000000000000000) :
    Calls Try.prog 14 #[.slice (some ⟨rb, off, none⟩) len cap, .bool true, .string line] w fun e w' => ∃ o c, Hid (d < len → o = off + d) ∧
      e = .returned (.tuple #[.int .i64 (dz z d), .slice (some ⟨rb, o, none⟩) (len - d) c, .bool true, .string line]) ∧ Below w.heap.size w w' := by
  have N := number_ok_in w.heap.size rb off len cap d z (w.alloc (.cells #[.slice (some ⟨rb, off, none⟩) len cap, .bool true, .string line] 37)) line hlen hcap
    (new_cell _ _ _ _) (new_cell _ _ _ _) (new_cell _ _ _ _) (new_free _ _ _ _)
    (fun i hi => (old_cell _ _ _ _ hrb).trans (hz i hi)) hd1 hd18 hdl hdig hnz hend hb
  clear hz hdig hnz hend hb
  go_enter Try.func14, Try.ntmps14
  go_wp2_with (go_at_call 19; refine N.mono ?_; rintro e w1 ⟨rfl, o, c, ho, g0, g1, g2, hbel⟩)
  go_quiet (fail)
  go_wp2
  refine bodyPost_ret (v := .tuple #[.int .i64 (dz z d), .slice (some ⟨rb, o, none⟩) (len - d) c, .bool true, .string line]) (by simp [results, Try.results14, go_sem]) rfl ⟨o, c, ho, rfl, ?_⟩
  exact below_drewN (((Below.refl _ _).alloc (Nat.le_refl _) _).trans hbel) _

theorem after_no (p len cap : Nat) (ra : Option Addr) (w : World) (line : ByteArray) (b : Bool)
    (h0 : w.cell? ⟨p, 0, none⟩ = some (.slice ra len cap)) (h1 : w.cell? ⟨p, 1, none⟩ = some (.bool b)) (h2 : w.cell? ⟨p, 2, none⟩ = some (.string line)) :
    (w.setCell ⟨p, 1, none⟩ (.bool false)).cell? ⟨p, 0, none⟩ = some (.slice ra len cap) ∧ (w.setCell ⟨p, 1, none⟩ (.bool false)).cell? ⟨p, 1, none⟩ = some (.bool false) ∧
      (w.setCell ⟨p, 1, none⟩ (.bool false)).cell? ⟨p, 2, none⟩ = some (.string line) ∧ Below p w (w.setCell ⟨p, 1, none⟩ (.bool false)) := by
  refine ⟨?_, World.cell?_setCell_same _ _ _ h1, ?_, (Below.refl p w).setCell (p := ⟨p, 1, none⟩) (Nat.le_refl _) _⟩
  · rw [World.cell?_setCell_other _ _ _ _ (by simp)]; exact h0
  · rw [World.cell?_setCell_other _ _ _ _ (by simp)]; exact h2

/-- What number leaves where it reads nothing is what ZZNumber hands back. -/
theorem zzNumber_of_no (ra : Option Addr) (len cap : Nat) (ok : Bool) (line : ByteArray) (w : World)
    (N0 : Calls Try.prog 19 #[.pointer (some ⟨w.heap.size, 0, none⟩)] (w.alloc (.cells #[.slice ra len cap, .bool ok, .string line] 37)) fun e w' =>
      e = .returned (.int .i64 0) ∧ w' = (w.alloc (.cells #[.slice ra len cap, .bool ok, .string line] 37)).setCell ⟨w.heap.size, 1, none⟩ (.bool false)) :
    Calls Try.prog 14 #[.slice ra len cap, .bool ok, .string line] w fun e w' =>
      e = .returned (.tuple #[.int .i64 0, .slice ra len cap, .bool false, .string line]) ∧ Below w.heap.size w w' := by
  have N : Calls Try.prog 19 #[.pointer (some ⟨w.heap.size, 0, none⟩)] (w.alloc (.cells #[.slice ra len cap, .bool ok, .string line] 37)) fun e w' =>
      e = .returned (.int .i64 0) ∧ w'.cell? ⟨w.heap.size, 0, none⟩ = some (.slice ra len cap) ∧ w'.cell? ⟨w.heap.size, 1, none⟩ = some (.bool false) ∧ w'.cell? ⟨w.heap.size, 2, none⟩ = some (.string line) ∧
        Below w.heap.size (w.alloc (.cells #[.slice ra len cap, .bool ok, .string line] 37)) w' := by
    refine N0.mono ?_
    rintro e w' ⟨rfl, rfl⟩
    exact ⟨rfl, after_no _ _ _ _ _ _ ok (new_cell _ _ _ _) (new_cell _ _ _ _) (new_cell _ _ _ _)⟩
  clear N0
  go_enter Try.func14, Try.ntmps14
  go_wp2_with (go_at_call 19; refine N.mono ?_; rintro e w1 ⟨rfl, g0, g1, g2, hbel⟩)
  go_quiet (fail)
  go_wp2
  refine bodyPost_ret (v := .tuple #[.int .i64 0, .slice ra len cap, .bool false, .string line]) (by simp [results, Try.results14, go_sem]) rfl ⟨rfl, ?_⟩
  exact below_drewN (((Below.refl _ _).alloc (Nat.le_refl _) _).trans hbel) _

theorem zzNumber_no (rb off len cap d : Nat) (ok : Bool) (z : Nat → Int) (w : World) (line : ByteArray) (hlen : len ≤ cap) (hcap : len ≤ maxLen) (hrb : rb < w.heap.size)
    (hz : ∀ i, i < len → w.cell? ⟨rb, off + i, none⟩ = some (.int .u8 (z i)))
    (hdl : d ≤ len) (hdig : ∀ i, i < d → 48 ≤ z i ∧ z i ≤ 57)
    (hend : d = 19 ∨ (d ≤ 18 ∧ ¬ d < len) ∨ (d ≤ 18 ∧ d < len ∧ z d < 48) ∨ (d ≤ 18 ∧ d < len ∧ 57 < z d))
    (hno : ok = false ∨ d = 0 ∨ 18 < d ∨ (1 ≤ d ∧ d ≤ 18 ∧ z 0 = 48)) :
    Calls Try.prog 14 #[.slice (some ⟨rb, off, none⟩) len cap, .bool ok, .string line] w fun e w' =>
      e = .returned (.tuple #[.int .i64 0, .slice (some ⟨rb, off, none⟩) len cap, .bool false, .string line]) ∧ Below w.heap.size w w' :=
  zzNumber_of_no _ _ _ _ _ _ (number_no w.heap.size rb off len cap d ok z _ hlen hcap (new_cell _ _ _ _) (new_cell _ _ _ _) (new_free _ _ _ _) (fun i hi => (old_cell _ _ _ _ hrb).trans (hz i hi)) hdl hdig hend hno)

theorem zzNumber_none (ra : Option Addr) (cap : Nat) (ok : Bool) (line : ByteArray) (w : World) :
    Calls Try.prog 14 #[.slice ra 0 cap, .bool ok, .string line] w fun e w' =>
      e = .returned (.tuple #[.int .i64 0, .slice ra 0 cap, .bool false, .string line]) ∧ Below w.heap.size w w' :=
  zzNumber_of_no _ _ _ _ _ _ (number_none w.heap.size cap ra ok _ (new_cell _ _ _ _) (new_cell _ _ _ _) (new_free _ _ _ _))
end Go.Proofs.Qxb6600104a
