/-
  The walk of the law FnNumberReadsLeadingDigitRun (5), at every input.
-/
import Derived.Test.Qxb6600104aLead2
import Derived.OpenShut
namespace Go.Proofs.Qxb6600104a
open Go.RowKit
open Pl
set_option linter.unusedVariables false

/-- The numbers of a row of bytes, as bytes. -/
def toBytes (zs : List Int) : List UInt8 := zs.map fun n => UInt8.ofNat n.toNat
theorem zOf_toBytes (zs : List Int) (len : Nat) (hl : len ≤ zs.length) (hw : ∀ n ∈ zs, (Lit.int .u8 n).wf = true) (i : Nat) (hi : i < len) : zOf (toBytes (zs.take len)) i = zs.getD i 0 := by
  have hb := range_u8 hw i
  have hi' : i < zs.length := by omega
  simp only [List.getElem?_eq_getElem hi', Option.getD_some] at hb
  rw [zOf_at _ _ (by simp [toBytes]; omega)]
  have e : (toBytes (zs.take len))[i]'(by simp [toBytes]; omega) = UInt8.ofNat zs[i].toNat := by simp [toBytes]
  rw [e, UInt8.toNat_ofNat']
  have : zs[i].toNat % 2 ^ 8 = zs[i].toNat := Nat.mod_eq_of_lt (by omega)
  rw [this]
  simp [List.getD, List.getElem?_eq_getElem hi']
  omega

set_option maxHeartbeats 800000 in
theorem lead_walk (a0 : Option Addr) (len0 cap0 : Nat) (z0 : List Int) (a1 : Bool) (a2 : ByteArray) (w : World)
    (w0 : (a0 = none ∧ len0 = 0 ∧ cap0 = 0 ∧ z0 = []) ∨ ∃ x, a0 = some x ∧ len0 ≤ cap0 ∧ cap0 ≤ maxLen ∧ z0.length = cap0 ∧ (∀ i, i < z0.length → w.cell? (x.add i) = some (.int .u8 (z0.getD i 0))) ∧ ∀ n ∈ z0, (Lit.int .u8 n).wf = true)
    (w2 : a2.size ≤ maxLen) :
    Calls Try.prog 5 #[.slice a0 len0 cap0, .bool a1, .string a2] w fun e w' => e = .returned (.bool true) ∧ Below w.heap.size w w' := by
  have hlm : len0 ≤ maxLen := by
    rcases w0 with ⟨_, rfl, _, _⟩ | ⟨_, _, h1, h2, _⟩
    · exact Nat.zero_le _
    · omega
  unfold maxLen at w2 hlm
  by_cases c0 : 1048576 < len0
  · clear w0
    go_enter Try.func5, Try.ntmps5
    go_wp2
    go_ret
    exact ⟨rfl, Below.refl _ _⟩
  by_cases c1 : 1048576 < a2.size
  · clear w0
    go_enter Try.func5, Try.ntmps5
    go_wp2
    go_ret
    exact ⟨rfl, Below.refl _ _⟩
  by_cases c2 : 1048576 < len0 + a2.size
  · clear w0
    go_enter Try.func5, Try.ntmps5
    go_wp2
    go_ret
    exact ⟨rfl, Below.refl _ _⟩
  rcases w0 with ⟨rfl, rfl, rfl, rfl⟩ | ⟨x, rfl, h1, h2, h3, h4, h5⟩
  · exact lead_nil a1 a2 w (by omega)
  by_cases hp : 0 < len0
  · obtain ⟨b, off, rfl, hc⟩ := ints_at h4 (by omega)
    have hb : b < w.heap.size := World.block_lt_of_cell? w ⟨b, off + 0, none⟩ (hc 0 (by omega))
    have hlen : (toBytes (z0.take len0)).length = len0 := by simp [toBytes]; omega
    have hz : ∀ i, i < (toBytes (z0.take len0)).length → w.cell? ⟨b, off + i, none⟩ = some (.int .u8 (zOf (toBytes (z0.take len0)) i)) := fun i hi => by
      rw [zOf_toBytes z0 len0 (by omega) h5 i (by omega)]; exact hc i (by omega)
    clear hc h4 h5
    generalize toBytes (z0.take len0) = bs at *
    subst hlen
    have hr := run_le bs
    have hstop : run bs < bs.length → zOf bs (run bs) < 48 ∨ 57 < zOf bs (run bs) := fun h => by
      rw [zOf_at _ _ h]; exact (isD_int_not _).1 (run_stop bs h)
    by_cases hacc : a1 = true ∧ 1 ≤ run bs ∧ run bs ≤ 18 ∧ zOf bs 0 ≠ 48
    · obtain ⟨rfl, g1, g2, g3⟩ := hacc
      exact lead_ok b off cap0 (run bs) bs a2 w hb hz (by omega) (by omega) h1 g1 g2 hr (run_allD bs) hstop g3
    · refine lead_no b off cap0 bs.length (run bs) a1 a2 w (zOf bs) hb hz hp (by omega) (by omega) h1 hr (fun i hi => ?_) hstop ?_
      · rw [zOf_at _ _ (by omega)]; exact (isD_int _).1 (run_dig bs i hi)
      · cases a1
        · exact .inl rfl
        · simp at hacc; omega
  · obtain rfl : len0 = 0 := by omega
    exact lead_empty x cap0 a1 a2 w (by omega)
end Go.Proofs.Qxb6600104a
