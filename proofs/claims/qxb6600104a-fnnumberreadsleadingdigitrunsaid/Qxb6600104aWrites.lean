/-
  The walk of the law FnNumberReadsWhatDecimalWrites (6).
-/
import Derived.Test.Qxb6600104aItoa
namespace Go.Proofs.Qxb6600104a
open Go.RowKit
open Pl
set_option linter.unusedVariables false

/-- The bytes of a list, by their places. -/
def zOf (bs : List UInt8) (i : Nat) : Int := ((bs.getD i 0).toNat : Int)
theorem zOf_at (bs : List UInt8) (i : Nat) (h : i < bs.length) : zOf bs i = (bs[i].toNat : Int) := by
  simp [zOf, List.getD, List.getElem?_eq_getElem h]
theorem zOf_left (l m : List UInt8) (i : Nat) (h : i < l.length) : zOf (l ++ m) i = (l[i].toNat : Int) := by
  rw [zOf_at _ _ (by simp; omega), List.getElem_append_left h]
theorem dz_take (bs : List UInt8) : ∀ k, k ≤ bs.length → dz (zOf bs) k = dv (bs.take k)
  | 0, _ => rfl
  | k + 1, h => by
    have ih := dz_take bs k (by omega)
    unfold dz
    rw [ih, List.take_succ_eq_append_getElem (by omega), dv_snoc, zOf_at _ _ (by omega)]

theorem allD_get (l : List UInt8) (i : Nat) (h : i < l.length) (ha : allD l = true) : 48 ≤ (l[i].toNat : Int) ∧ (l[i].toNat : Int) ≤ 57 := by
  have : isD l[i] = true := by
    unfold allD at ha
    rw [List.all_eq_true] at ha
    exact ha _ (List.getElem_mem h)
  exact (isD_int _).1 this

/-- The bytes of '[]byte(s)' in its new block. -/
theorem bytes_cells (w : World) (s : ByteArray) (e : TypeId) (cap : Nat) (i : Nat) (h : i < s.data.toList.length) :
    (w.alloc (.cells (bytesRow s cap) e ((bytesRow s cap).size, (bytesRow s cap).size + 1))).cell? ⟨w.heap.size, i, none⟩ = some (.int .u8 (zOf s.data.toList i)) := by
  rw [World.cell?_alloc_mark, bytesRow_at s cap i (by simpa using h), zOf_at _ _ h]
  rfl

/-- ZZNumber over the bytes of L and of the text a1, which opens with no digit: it reads L's number and leaves a1. -/
theorem door_at (v0 : Int) (L : List UInt8) (a1 : ByteArray) (w1 : World) (C : Nat) (hC : L.length + a1.size ≤ C) (hw : Wr v0 0 L) (h18 : v0 < 1000000000000000000) (ht : a1.size ≤ 1048576)
    (hnd : ∀ h : 0 < a1.size, (a1[0].toNat : Int) < 48 ∨ 57 < (a1[0].toNat : Int)) :
    Calls Try.prog 14 #[.slice (some ⟨w1.heap.size, 0, none⟩) (L.length + a1.size) C, .bool true, .string ⟨#[]⟩]
      (w1.alloc (.cells (bytesRow (⟨L.toArray⟩ ++ a1) C) 5 ((bytesRow (⟨L.toArray⟩ ++ a1) C).size, (bytesRow (⟨L.toArray⟩ ++ a1) C).size + 1))).drew
      fun e w' => ∃ o c, e = .returned (.tuple #[.int .i64 v0, .slice (some ⟨w1.heap.size, o, none⟩) a1.size c, .bool true, .string ⟨#[]⟩]) ∧
        (convert 28 9 (.slice (some ⟨w1.heap.size, o, none⟩) a1.size c)).run Try.prog w' = .ok (.string a1) w' ∧ Below w1.heap.size w1 w' := by
  obtain ⟨hv, hall, hl1, hl18, c0, t0, hct, hc0⟩ := hw.done h18
  have hdata : ((⟨L.toArray⟩ : ByteArray) ++ a1).data.toList = L ++ a1.data.toList := by simp
  have hlen : (L ++ a1.data.toList).length = L.length + a1.size := by simp
  have hcells : ∀ i, i < L.length + a1.size → (w1.alloc (.cells (bytesRow (⟨L.toArray⟩ ++ a1) C) 5 ((bytesRow (⟨L.toArray⟩ ++ a1) C).size, (bytesRow (⟨L.toArray⟩ ++ a1) C).size + 1))).drew.cell? ⟨w1.heap.size, 0 + i, none⟩ = some (.int .u8 (zOf (L ++ a1.data.toList) i)) := by
    intro i hi
    rw [Nat.zero_add]
    have := bytes_cells w1 (⟨L.toArray⟩ ++ a1) 5 C i (by rw [hdata, hlen]; exact hi)
    rw [hdata] at this
    exact this
  have hsize : w1.heap.size < (w1.alloc (.cells (bytesRow (⟨L.toArray⟩ ++ a1) C) 5 ((bytesRow (⟨L.toArray⟩ ++ a1) C).size, (bytesRow (⟨L.toArray⟩ ++ a1) C).size + 1))).drew.heap.size := by
    show w1.heap.size < (w1.alloc _).heap.size
    simp
  have hdz : ∀ k, k ≤ L.length → dz (zOf (L ++ a1.data.toList)) k = dv (L.take k) := fun k hk => by
    rw [dz_take _ _ (by omega), List.take_append_of_le_length hk]
  have hd := hdz L.length (Nat.le_refl _)
  rw [List.take_length, hv] at hd
  have K := zzNumber_ok w1.heap.size 0 (L.length + a1.size) C L.length (zOf (L ++ a1.data.toList)) _ ⟨#[]⟩ hC (by unfold maxLen; omega) hsize hcells hl1 hl18 (by omega)
    (fun i hi => by rw [zOf_left _ _ _ hi]; exact allD_get L i hi hall)
    (by subst hct; rw [zOf_left _ _ 0 (by simp)]; simp; omega)
    (by
      by_cases hp : 0 < a1.size
      · right
        refine ⟨by omega, ?_⟩
        have e : zOf (L ++ a1.data.toList) L.length = (a1[0].toNat : Int) := by
          rw [zOf_at _ _ (by omega), List.getElem_append_right (Nat.le_refl _)]
          simp
          rfl
        rw [e]
        exact hnd hp
      · left; omega)
    (fun k hk => by
      rw [hdz k hk]
      have h1 := (dv_bd _ (allD_take L k hall)).1
      have h2 := dv_take_le L k hall
      omega)
  refine K.mono ?_
  rintro e w' ⟨o, c, ho, rfl, hbel⟩
  have hsub : L.length + a1.size - L.length = a1.size := by omega
  rw [hd, hsub]
  have hbel1 : Below w1.heap.size w1 w' := ((((Below.refl _ _).alloc (Nat.le_refl _) _).drew).trans (hbel.mono (by omega)))
  refine ⟨o, c, rfl, ?_, hbel1⟩
  have hl : a1.size = a1.data.toList.length := by simp
  have R := run_convert_bytes_back (P := Try.prog) w' 28 9 5 ⟨w1.heap.size, o, none⟩ c a1.data.toList Try.underlying28 Try.underlying5 Try.underlying9 (fun j hj => by
    have hp : 0 < a1.size := by omega
    have ho' := ho.out (by omega)
    rw [addr_add, hbel.cell (p := ⟨w1.heap.size, o + j, none⟩) hsize, ho', Nat.add_assoc, hcells (L.length + j) (by omega)]
    rw [zOf_at _ _ (by omega), List.getElem_append_right (by omega)]
    simp)
  rw [← hl] at R
  exact R

set_option maxHeartbeats 400000 in
theorem writes_main (a0 : Int) (a1 : ByteArray) (w : World) (h1 : 1 ≤ a0) (h18 : a0 < 1000000000000000000) (ht : a1.size ≤ 1048576)
    (hnd : ∀ h : 0 < a1.size, (a1[0].toNat : Int) < 48 ∨ 57 < (a1[0].toNat : Int)) :
    Calls Try.prog 6 #[.int .i64 a0, .string a1] w fun e w' => e = .returned (.bool true) ∧ Below w.heap.size w w' := by
  have I := itoa_any a0 w h1 h18
  have hcv := fun W s => run_bytes_of_string (P := Try.prog) W 9 28 5 s Try.underlying9 Try.underlying28 Try.underlying5
  have HD : Hid (∀ h : 0 < a1.size, (a1[0].toNat : Int) < 48 ∨ 57 < (a1[0].toNat : Int)) := hnd
  have hcase : (¬ 0 < a1.size) ∨ (∃ h : 0 < a1.size, (a1[0].toNat : Int) < 48) ∨ (∃ h : 0 < a1.size, 57 < (a1[0].toNat : Int)) := by
    by_cases hp : 0 < a1.size
    · rcases hnd hp with h | h
      · exact .inr (.inl ⟨hp, h⟩)
      · exact .inr (.inr ⟨hp, h⟩)
    · exact .inl hp
  clear hnd
  rcases hcase with hp | ⟨hp, hq⟩ | ⟨hp, hq⟩
  all_goals
    go_enter Try.func6, Try.ntmps6
    go_wp2_with (first | (go_at_call 17; refine I.mono ?_; rintro e w1 ⟨L, rfl, hL, hb1⟩; have hL18 := (hL.out.done h18).2.2.2.1; clear I) | (go_at_call 16; go_in))
    refine (door_at a0 L a1 w1 _ (grownCap_ge _ _ _ _) hL.out h18 ht HD.out).mono ?_
    rintro e w2 ⟨o, c, rfl, hback, hb2⟩
    have hsz := hb1.size
    have hbel : Below w.heap.size w w2 := hb1.trans (hb2.mono hsz)
    clear hcv hb1 hb2 hsz hL
    go_wp2
    go_ret
    exact ⟨rfl, hbel⟩

set_option maxHeartbeats 400000 in
theorem writes_walk (a0 : Int) (a1 : ByteArray) (w0 : (Lit.int .i64 a0).wf = true) (w1 : a1.size ≤ maxLen) (w : World) :
    Calls Try.prog 6 #[.int .i64 a0, .string a1] w fun e w' => e = .returned (.bool true) ∧ Below w.heap.size w w' := by
  unfold maxLen at w1
  by_cases c0 : 1048576 < a1.size
  · go_enter Try.func6, Try.ntmps6
    go_wp2
    go_ret
    exact ⟨rfl, Below.refl _ _⟩
  by_cases c1 : a0 < 1
  · go_enter Try.func6, Try.ntmps6
    go_wp2
    go_ret
    exact ⟨rfl, Below.refl _ _⟩
  by_cases c2 : 999999999999999999 < a0
  · go_enter Try.func6, Try.ntmps6
    go_wp2
    go_ret
    exact ⟨rfl, Below.refl _ _⟩
  by_cases c3 : ∃ h : 0 < a1.size, 48 ≤ (a1[0].toNat : Int) ∧ (a1[0].toNat : Int) ≤ 57
  · obtain ⟨hp, hq1, hq2⟩ := c3
    go_enter Try.func6, Try.ntmps6
    go_wp2
    go_ret
    exact ⟨rfl, Below.refl _ _⟩
  · exact writes_main a0 a1 w (by omega) (by omega) (by omega) (fun h => by
      by_cases g : (a1[0].toNat : Int) < 48
      · exact .inl g
      · right
        rcases Int.lt_or_le 57 (a1[0].toNat : Int) with k | k
        · exact k
        · exact absurd ⟨h, by omega, k⟩ c3)
end Go.Proofs.Qxb6600104a
