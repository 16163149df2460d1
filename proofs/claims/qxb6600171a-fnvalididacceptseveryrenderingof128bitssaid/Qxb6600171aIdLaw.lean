/-
  The walk of the law FnValidIDAcceptsEveryRenderingOf128Bits (5).
-/
import Derived.Test.Qxb6600171aRender
namespace Go.Proofs.Qxb6600171a
open Go.RowKit
open Pl
set_option linter.unusedVariables false

theorem RowIs.later {B : Nat} {w wr w2 : World} {n k : Nat} {z : Nat → Int} (h : RowIs B w wr n k z) (hb : Below wr.heap.size wr w2) : RowIs B w w2 n k z := by
  have hbig := h.big
  have hs := hb.size
  refine ⟨fun j hj => ?_, fun j hj => ?_, fun j hj => ?_, h.bel.trans (hb.mono (by omega)), by omega⟩
  · rw [hb.cell (p := ⟨B, j, none⟩) hbig]; exact h.cells j hj
  · rw [hb.frozen (p := ⟨B, j, none⟩) hbig]; exact h.free j hj
  · rw [hb.cell (p := ⟨B, j, none⟩) hbig]; exact h.put j hj

theorem RowIs.set {B : Nat} {w wr : World} {n : Nat} {z : Nat → Int} (h : RowIs B w wr n n z) (k : Nat) (hk : k < n) (v : Int) (z' : Nat → Int) (hz : ∀ j, j < n → z' j = if j = k then v else z j) :
    RowIs B w (wr.setCell ⟨B, k, none⟩ (.int .u8 v)) n n z' := by
  obtain ⟨x, hx⟩ := Option.isSome_iff_exists.1 (h.cells k hk)
  refine ⟨fun j hj => ?_, fun j hj => ?_, fun j hj => ?_, h.bel.setCell (p := ⟨B, k, none⟩) (Nat.le_refl _) _, by simp [World.setCell]; exact h.big⟩
  · by_cases e : j = k
    · subst e; rw [World.cell?_setCell_same _ _ _ hx]; rfl
    · rw [World.cell?_setCell_other _ _ _ _ (by intro h; injection h; omega)]; exact h.cells j hj
  · rw [World.frozen?_setCell]; exact h.free j hj
  · rw [hz j hj]
    by_cases e : j = k
    · subst e; rw [World.cell?_setCell_same _ _ _ hx, if_pos rfl]
    · rw [World.cell?_setCell_other _ _ _ _ (by intro h; injection h; omega), if_neg e]; exact h.put j hj

/-- A text of another length, by the door. -/
theorem zzId_size (s : ByteArray) (w : World) (h1 : s.size ≤ 1000) (h2 : s.size ≠ 36) :
    Calls Try.prog 13 #[.string s] w fun e w' => e = .returned (.bool false) ∧ Below w.heap.size w w' :=
  zzId_of (id_size s w (by unfold maxLen; omega) h2)

theorem cut_sizes (t : ByteArray) (h : t.size = 36) : (t.extract 0 35).size = 35 ∧ (t.extract 1 36).size = 35 := by
  constructor
  · simp [h]
  · simp [h]
theorem join_size (a b : ByteArray) : (a ++ b).size = a.size + b.size := by simp

theorem zzId_plus (t d : ByteArray) (w : World) (ht : t.size = 36) (hd : d.size = 1) : Calls Try.prog 13 #[.string (t ++ d)] w fun e w' => e = .returned (.bool false) ∧ Below w.heap.size w w' :=
  zzId_size _ w (by rw [join_size]; omega) (by rw [join_size]; omega)
theorem zzId_ahead (t d : ByteArray) (w : World) (ht : t.size = 36) (hd : d.size = 1) : Calls Try.prog 13 #[.string (d ++ t)] w fun e w' => e = .returned (.bool false) ∧ Below w.heap.size w w' :=
  zzId_size _ w (by rw [join_size]; omega) (by rw [join_size]; omega)
theorem hexd_size (k : Nat) (h : k < 22) : (({ data := #[48, 49, 50, 51, 52, 53, 54, 55, 56, 57, 97, 98, 99, 100, 101, 102, 65, 66, 67, 68, 69, 70] } : ByteArray).extract k (k + 1)).size = 1 := by
  rw [ByteArray.size_extract]
  show min (k + 1) 22 - k = 1
  omega

/-- The bytes z with the letter g at place k. -/
def gAt (z : Nat → Int) (k j : Nat) : Int := if j = k then 103 else z j

/-- 'string(b)' with a g at place k is no id. -/
theorem zzId_g (z : Nat → Int) (hok : ∀ j, j < 36 → OkAt j (z j)) (k : Nat) (hk : k < 36) : ∃ L : List UInt8, L.length = 36 ∧ (∀ j (hj : j < L.length), gAt z k j = (L[j].toNat : Int)) ∧
    ∀ W, Calls Try.prog 13 #[.string ⟨L.toArray⟩] W fun e w' => e = .returned (.bool false) ∧ Below W.heap.size W w' := by
  have hlen : ((List.range 36).map fun j => UInt8.ofNat (gAt z k j).toNat).length = 36 := by simp
  have hzz : ∀ j (hj : j < ((List.range 36).map fun j => UInt8.ofNat (gAt z k j).toNat).length), gAt z k j = ((((List.range 36).map fun j => UInt8.ofNat (gAt z k j).toNat)[j]).toNat : Int) := by
    intro j hj
    have hj36 : j < 36 := by rw [hlen] at hj; exact hj
    have hb : 0 ≤ gAt z k j ∧ gAt z k j ≤ 255 := by
      unfold gAt
      split
      · omega
      · exact okAt_byte (hok j hj36)
    rw [List.getElem_map, List.getElem_range, UInt8.toNat_ofNat']
    have : (gAt z k j).toNat % 2 ^ 8 = (gAt z k j).toNat := Nat.mod_eq_of_lt (by omega)
    rw [this]
    omega
  refine ⟨_, hlen, hzz, fun W => zzId_of (id_g _ W hlen k hk ?_ (fun i hi => ?_))⟩
  · show zOf ((List.range 36).map fun j => UInt8.ofNat (gAt z k j).toNat) k = 103
    rw [zOf_at _ _ (by rw [hlen]; exact hk), ← hzz k (by rw [hlen]; exact hk)]
    simp [gAt]
  · show OkAt i (zOf ((List.range 36).map fun j => UInt8.ofNat (gAt z k j).toNat) i)
    rw [zOf_at _ _ (by rw [hlen]; omega), ← hzz i (by rw [hlen]; omega)]
    unfold gAt
    rw [if_neg (by omega)]
    exact hok i (by omega)

set_option maxHeartbeats 800000 in
theorem id_walk (a0 a1 a2 : Int) (w : World) (h1 : 0 ≤ a0) (h2 : 0 ≤ a1) (h3 : 0 ≤ a2) :
    Calls Try.prog 5 #[.int .u64 a0, .int .u64 a1, .int .u32 a2] w fun e w' => e = .returned (.bool true) ∧ Below w.heap.size w w' := by
  have R := render_any a0 a1 a2 w h1 h2 h3
  have tok1 : True := trivial
  have tok2 : True := trivial
  go_enter Try.func5, Try.ntmps5
  go_wp2_with (first | (go_at_call 18; refine R.mono ?_; rintro e w1 ⟨⟨t, rfl, hsz, hok⟩, hb1⟩; clear R; obtain ⟨q1, q2⟩ := cut_sizes t hsz; have HK : Hid (∀ j, j < 36 → OkAt j (zOf t.data.toList j)) := hok; clear hok) | (go_at_call 13; have _t := tok1; refine (zzId_of (id_yes _ _ hsz HK.out)).mono ?_; rintro e w2 ⟨rfl, hb2⟩; clear tok1) | (go_at_call 13; have _t := tok2; refine (zzId_size (t.extract 0 35) _ (by omega) (by omega)).mono ?_; rintro e w3 ⟨rfl, hb3⟩; clear tok2) | (go_at_call 13; refine (zzId_size (t.extract 1 36) _ (by omega) (by omega)).mono ?_; rintro e w4 ⟨rfl, hb4⟩))
  have s1 := hb1.size
  have s2 := hb2.size
  have s3 := hb3.size
  have HB : Below w.heap.size w w4 := ((hb1.trans (hb2.mono (by omega))).trans (hb3.mono (by omega))).trans (hb4.mono (by omega))
  clear hb1 hb2 hb3 hb4 s1 s2 s3 q1 q2
  go_loopw [8] (fun i wr => ∃ k : Nat, k ≤ 22 ∧ i = .int .i64 k ∧ Below w.heap.size w wr) (fun i _ => 22 - (intOf i).toNat)
  case atStart => exact ⟨0, by omega, rfl, HB⟩
  case round =>
    obtain ⟨k, hk, rfl, hbr⟩ := hrel
    clear HB
    by_cases hlt : k < 22
    · have hd := hexd_size k hlt
      have tok3 : True := trivial
      go_wp2_with (first | (go_at_call 13; have _t := tok3; refine (zzId_plus t _ _ hsz hd).mono ?_; rintro e w5 ⟨rfl, hb5⟩; clear tok3) | (go_at_call 13; refine (zzId_ahead t _ _ hsz hd).mono ?_; rintro e w6 ⟨rfl, hb6⟩))
      have s5 := hb5.size
      have sr := hbr.size
      go_roundw
      case rel => exact ⟨k + 1, by omega, by go_num, (hbr.trans (hb5.mono (by omega))).trans (hb6.mono (by omega))⟩
      case measure => simp [intOf]; omega
    · obtain ⟨cp, W0, hcv, hcp, hb0, hz0, hcell, hfree⟩ := toBytes wr t
      rw [hsz] at hcv hcp hcell hfree
      have hrow : RowIs wr.heap.size wr W0 36 36 (zOf t.data.toList) := ⟨fun j hj => by rw [hcell j hj]; rfl, hfree, hcell, hb0, hz0⟩
      clear hcell hfree hb0 hz0
      have HK' : Hid (∀ j, j < 36 → OkAt j (zOf t.data.toList j)) := HK
      clear HK
      generalize zOf t.data.toList = z at *
      obtain ⟨wo, rfl⟩ : ∃ wo : World, wo = wr := ⟨_, rfl⟩
      go_wp2
      go_loopw [11] (fun i wx => ∃ k : Nat, k ≤ 36 ∧ i = .int .i64 k ∧ RowIs wo.heap.size wo wx 36 36 z) (fun i _ => 36 - (intOf i).toNat)
      case atStart => exact ⟨0, by omega, rfl, hrow⟩
      case round =>
        obtain ⟨p, hp, rfl, hr⟩ := hrel
        clear hcv hrow
        by_cases hlp : p < 36
        · have hc := hr.put p hlp
          have hf := hr.free p hlp
          have hr1 := hr.set p hlp 103 (gAt z p) (fun j hj => rfl)
          obtain ⟨L, hL, hLz, KG⟩ := zzId_g z HK'.out p hlp
          have hcv := fun c => hr1.text (c := c) L hL hLz
          have HR : Hid (RowIs wo.heap.size wo (wr.setCell ⟨wo.heap.size, p, none⟩ (.int .u8 103)) 36 36 (gAt z p)) := hr1
          clear hr hr1 hL hLz
          go_wp2_with (go_at_call 13; refine (KG _).mono ?_; rintro e w7 ⟨rfl, hb7⟩; have hr7 := HR.out.later hb7; have hc7 := hr7.put p hlp; have hf7 := hr7.free p hlp; have HR7 : Hid (RowIs wo.heap.size wo w7 36 36 (gAt z p)) := hr7; clear hr7 HR hb7)
          have hr8 := HR7.out.set p hlp (z p) z (fun j hj => by
            unfold gAt
            by_cases e : j = p
            · subst e; simp
            · simp [e])
          go_roundw
          case rel => exact ⟨p + 1, by omega, by go_num, hr8⟩
          case measure => simp [intOf]; omega
        · have hb := hr.bel
          clear hr
          go_wp2
          go_ret
          exact ⟨rfl, hbr.trans (hb.mono hbr.size)⟩
end Go.Proofs.Qxb6600171a
