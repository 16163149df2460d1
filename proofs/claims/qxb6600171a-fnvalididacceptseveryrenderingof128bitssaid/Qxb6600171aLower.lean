/-
  The walk of zzLower (16).
-/
import Derived.Test.Qxb6600171aCur
namespace Go.Proofs.Qxb6600171a
open Go.RowKit
open Pl
set_option linter.unusedVariables false

theorem info5 : (Try.prog.info? 5).map (fun i => (i.zero, i.size, i.bytes)) = some (some (.int .u8 0), 1, 1) := by kernel_rfl
theorem new_cell (w : World) (C : Array Value) (t : TypeId) (i : Nat) : (w.alloc (.cells C t)).cell? ⟨w.heap.size, i, none⟩ = C[i]? := by simp
theorem new_free (w : World) (C : Array Value) (t : TypeId) (i : Nat) : (w.alloc (.cells C t)).frozen? ⟨w.heap.size, i, none⟩ = false := by simp
theorem addr_add (b o j : Nat) : (⟨b, o, none⟩ : Addr).add j = ⟨b, o + j, none⟩ := by unfold Addr.add; split <;> simp_all

/-- A row of n cells at block B of which the first k hold z's numbers; nothing below B has turned. -/
structure RowIs (B : Nat) (w wr : World) (n k : Nat) (z : Nat → Int) : Prop where
  cells : ∀ j, j < n → (wr.cell? ⟨B, j, none⟩).isSome = true
  free : ∀ j, j < n → wr.frozen? ⟨B, j, none⟩ = false
  put : ∀ j, j < k → wr.cell? ⟨B, j, none⟩ = some (.int .u8 (z j))
  bel : Below B w wr
  big : B < wr.heap.size

theorem RowIs.step {B : Nat} {w wr : World} {n k : Nat} {z : Nat → Int} (h : RowIs B w wr n k z) (hk : k < n) (v : Int) (hv : v = z k) :
    RowIs B w (wr.setCell ⟨B, k, none⟩ (.int .u8 v)) n (k + 1) z := by
  subst hv
  obtain ⟨x, hx⟩ := Option.isSome_iff_exists.1 (h.cells k hk)
  refine ⟨fun j hj => ?_, fun j hj => ?_, fun j hj => ?_, h.bel.setCell (p := ⟨B, k, none⟩) (Nat.le_refl _) _, by simp [World.setCell]; exact h.big⟩
  · by_cases e : j = k
    · subst e; rw [World.cell?_setCell_same _ _ _ hx]; rfl
    · rw [World.cell?_setCell_other _ _ _ _ (by intro h; injection h; omega)]; exact h.cells j hj
  · rw [World.frozen?_setCell]; exact h.free j hj
  · by_cases e : j = k
    · subst e; rw [World.cell?_setCell_same _ _ _ hx]
    · rw [World.cell?_setCell_other _ _ _ _ (by intro h; injection h; omega)]; exact h.put j (by omega)

/-- 'make([]byte, n)': some world with a new row of n cells at the end of the heap. -/
theorem made (w : World) (n : Nat) (h : n ≤ 1048576) (z : Nat → Int) : ∃ W1 : World, (Instr.makeSlice 27 (.int .i64 (n : Int)) (.int .i64 (n : Int))).run Try.prog w = .ok (.slice (some ⟨w.heap.size, 0, none⟩) n n) W1 ∧ RowIs w.heap.size w W1 n 0 z := by
  obtain ⟨i0, hi, hz0, hz1, hz2⟩ := info_parts info5
  have R := run_make w 27 5 i0 (.int .u8 0) Try.underlying27 hi hz0 .i64 .i64 (n : Int) (n : Int) (by omega) (by omega) (by rw [hz2]; omega) (by omega)
  rw [Int.toNat_natCast, hz1, Nat.mul_one] at R
  refine ⟨_, R, fun j hj => ?_, fun j _ => new_free _ _ _ _, fun j hj => by omega, (Below.refl _ _).alloc (Nat.le_refl _) _, by simp⟩
  rw [new_cell, Array.getElem?_eq_getElem (by rw [size_madeCells]; exact hj)]
  rfl

/-- 'string(b)' of such a row. -/
theorem RowIs.text {B : Nat} {w wr : World} {n c : Nat} {z : Nat → Int} (h : RowIs B w wr n n z) (l : List UInt8) (hl : l.length = n) (hz : ∀ j (hj : j < l.length), z j = (l[j].toNat : Int)) :
    (convert 27 9 (.slice (some ⟨B, 0, none⟩) n c)).run Try.prog wr = .ok (.string ⟨l.toArray⟩) wr := by
  subst hl
  exact run_convert_bytes_back (P := Try.prog) wr 27 9 5 ⟨B, 0, none⟩ c l Try.underlying27 Try.underlying5 Try.underlying9 (fun j hj => by
    rw [addr_add, Nat.zero_add, h.put j hj, hz j hj])

/-- A byte in lower case. -/
def lowU (c : UInt8) : UInt8 := if 65 ≤ c.toNat ∧ c.toNat ≤ 90 then UInt8.ofNat (c.toNat + 32) else c
theorem lowU_up (c : UInt8) (h1 : 65 ≤ c.toNat) (h2 : c.toNat ≤ 90) : ((lowU c).toNat : Int) = (c.toNat : Int) + 32 := by
  unfold lowU
  rw [if_pos ⟨h1, h2⟩, UInt8.toNat_ofNat']
  have : (c.toNat + 32) % 2 ^ 8 = c.toNat + 32 := Nat.mod_eq_of_lt (by omega)
  omega
theorem lowU_no (c : UInt8) (h : ¬ (65 ≤ c.toNat ∧ c.toNat ≤ 90)) : lowU c = c := by unfold lowU; rw [if_neg h]
/-- The bytes of s in lower case, by their places. -/
def lowz (s : ByteArray) (j : Nat) : Int := zOf (s.data.toList.map lowU) j
theorem lowz_at (s : ByteArray) (k : Nat) (h : k < s.size) : lowz s k = ((lowU s[k]).toNat : Int) := by
  unfold lowz
  rw [zOf_at _ _ (by simpa using h)]
  simp
  rfl

set_option maxHeartbeats 400000 in
theorem lower_any (s : ByteArray) (w : World) (hs : s.size ≤ 1048576) :
    Calls Try.prog 16 #[.string s] w fun e w' => (∃ t : ByteArray, e = .returned (.string t) ∧ Hid (t.data.toList = s.data.toList.map lowU)) ∧ Below w.heap.size w w' := by
  obtain ⟨W1, hmk, hrow⟩ := made w s.size hs (lowz s)
  go_enter Try.func16, Try.ntmps16
  go_wp2
  go_loopw [4] (fun i wr => ∃ k : Nat, k ≤ s.size ∧ i = .int .i64 k ∧ RowIs w.heap.size w wr s.size k (lowz s)) (fun i _ => s.size - (intOf i).toNat)
  case atStart => exact ⟨0, Nat.zero_le _, rfl, hrow⟩
  case round =>
    obtain ⟨k, hk, rfl, hr⟩ := hrel
    clear hmk hrow
    by_cases hlt : k < s.size
    · obtain ⟨x, hx⟩ := Option.isSome_iff_exists.1 (hr.cells k hlt)
      have hf := hr.free k hlt
      have hlz := lowz_at s k hlt
      by_cases hu : 65 ≤ s[k].toNat ∧ s[k].toNat ≤ 90
      · have R := hr.step hlt ((s[k].toNat : Int) + 32) (by rw [hlz, lowU_up _ hu.1 hu.2])
        obtain ⟨u1, u2⟩ := hu
        have u1' : 65 ≤ (s[k].toNat : Int) := by omega
        have u2' : (s[k].toNat : Int) ≤ 90 := by omega
        clear hlz hr u1 u2
        go_wp2
        go_roundw
        case rel => exact ⟨k + 1, by omega, by go_num, R⟩
        case measure => simp [intOf]; omega
      · have R := hr.step hlt (s[k].toNat : Int) (by rw [hlz, lowU_no _ hu])
        have hu' : (s[k].toNat : Int) < 65 ∨ 90 < (s[k].toNat : Int) := by omega
        clear hlz hr hu
        rcases hu' with u | u
        all_goals
          go_wp2
          go_roundw
          case rel => exact ⟨k + 1, by omega, by go_num, R⟩
          case measure => simp [intOf]; omega
    · have e : k = s.size := by omega
      have hr' : RowIs w.heap.size w wr s.size s.size (lowz s) := by rw [← e]; rw [e]; rw [e] at hr; exact hr
      have hcv := fun c => hr'.text (c := c) (s.data.toList.map lowU) (by simp) (fun j hj => zOf_at _ j hj)
      have hb := hr'.bel
      clear hr hr' e
      go_wp2
      go_ret
      exact ⟨⟨_, rfl, rfl⟩, hb⟩
end Go.Proofs.Qxb6600171a
