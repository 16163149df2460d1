/-
  The walks of zzHexDigit (31) and zzRender (18).
-/
import Derived.Test.Qxb6600171aId
import Derived.ArgAppend
namespace Go.Proofs.Qxb6600171a
open Go.RowKit
open Pl
set_option linter.unusedVariables false

theorem hex_any (v : Int) (up : Bool) (w : World) (h0 : 0 ≤ v) (h15 : v ≤ 15) :
    Calls Try.prog 31 #[.int .u64 v, .bool up] w fun e w' => (∃ c : Int, e = .returned (.int .u8 c) ∧ hexC c) ∧ w' = w := by
  by_cases hv : v < 10
  · go_enter Try.func31, Try.ntmps31
    go_wp2
    go_ret
    exact ⟨⟨_, rfl, by unfold hexC; omega⟩, rfl⟩
  · cases up
    all_goals
      go_enter Try.func31, Try.ntmps31
      go_wp2
      go_ret
      exact ⟨⟨_, rfl, by unfold hexC; omega⟩, rfl⟩

theorem and15 (x : Int) : 0 ≤ bits BinOp.and IntKind.u64 x 15 ∧ bits BinOp.and IntKind.u64 x 15 ≤ 15 := by
  have e : (BitVec.ofInt 64 x &&& BitVec.ofInt 64 15).toNat ≤ 15 := by
    rw [BitVec.toNat_and]
    exact Nat.le_trans Nat.and_le_right (by decide)
  show 0 ≤ IntKind.u64.wrap ((BitVec.ofInt 64 x &&& BitVec.ofInt 64 15).toNat : Int) ∧ IntKind.u64.wrap ((BitVec.ofInt 64 x &&& BitVec.ofInt 64 15).toNat : Int) ≤ 15
  generalize (BitVec.ofInt 64 x &&& BitVec.ofInt 64 15).toNat = n at *
  rw [IntKind.wrap_u64]
  omega

theorem RowIs.alloc {B : Nat} {w wr : World} {n k : Nat} {z : Nat → Int} (h : RowIs B w wr n k z) (o : Obj) : RowIs B w (wr.alloc o) n k z := by
  have hb := h.big
  have hc : ∀ j, (wr.alloc o).cell? ⟨B, j, none⟩ = wr.cell? ⟨B, j, none⟩ := fun j => World.cell?_alloc_lt _ _ _ hb
  have hf : ∀ j, (wr.alloc o).frozen? ⟨B, j, none⟩ = wr.frozen? ⟨B, j, none⟩ := fun j => World.frozen?_alloc_old _ _ _ (by show B ≠ wr.heap.size; omega)
  refine ⟨fun j hj => ?_, fun j hj => ?_, fun j hj => ?_, h.bel.alloc (by omega) _, by simp; omega⟩
  · rw [hc]; exact h.cells j hj
  · rw [hf]; exact h.free j hj
  · rw [hc]; exact h.put j hj

theorem RowIs.anew {B : Nat} {w wr : World} {n k : Nat} {z z' : Nat → Int} (h : RowIs B w wr n k z) (hz : ∀ j, j < k → z' j = z j) : RowIs B w wr n k z' :=
  ⟨h.cells, h.free, fun j hj => by rw [hz j hj]; exact h.put j hj, h.bel, h.big⟩

/-- 'b = append(b, c)' where there is room: the one more cell. -/
theorem append_one {B : Nat} {w wr : World} {n : Nat} {z : Nat → Int} (h : RowIs B w wr 36 n z) (hn : n < 36) (hok : ∀ j, j < n → OkAt j (z j)) (c : Int) (hc : OkAt n c) :
    ∃ (W2 : World) (z' : Nat → Int), (∀ ty, (Builtin.append_ #[27, 27] ty #[.slice (some ⟨B, 0, none⟩) n 36, .slice (some ⟨wr.heap.size, 0, none⟩) 1 1]).run Try.prog (wr.alloc (.cells #[.int .u8 c] 5)) = .ok (.slice (some ⟨B, 0, none⟩) (n + 1) 36) W2) ∧
      RowIs B w W2 36 (n + 1) z' ∧ ∀ j, j < n + 1 → OkAt j (z' j) := by
  obtain ⟨i0, hi, hz0, hz1, hz2⟩ := info_parts info5
  have ha := (h.alloc (.cells #[.int .u8 c] 5)).anew (z' := fun j => if j = n then c else z j) (fun j hj => by rw [if_neg (by omega)])
  refine ⟨_, fun j => if j = n then c else z j, fun ty => ?_, ha.step hn c (by simp), fun j hj => ?_⟩
  · have R := run_append_room_cells (P := Try.prog) (wr.alloc (.cells #[.int .u8 c] 5)) 27 ty 5 i0 Try.underlying27 hi B 0 n 36 ⟨wr.heap.size, 0, none⟩ 1 1 [.int .u8 c] (by simp [hz1])
      (fun j u hj => by
        match j, hj with
        | 0, hj =>
          simp at hj
          subst hj
          rw [addr_add, Nat.add_zero, new_cell]
          rfl)
      (fun u hu => by simp at hu; subst hu; rfl) (by omega)
      (fun j hj => by
        have : j = 0 := by simp at hj; exact hj
        subst this
        rw [hz1, Nat.zero_add, Nat.mul_one, Nat.add_zero]
        exact ha.cells n hn)
      (fun j hj => by
        have : j = 0 := by simp at hj; exact hj
        subst this
        rw [hz1, Nat.zero_add, Nat.mul_one, Nat.add_zero]
        exact ha.free n hn)
    rw [hz1, Nat.zero_add, Nat.mul_one] at R
    exact R
  · by_cases e : j = n
    · subst e; simp; exact hc
    · simp [e]; exact hok j (by omega)

/-- An append whose run is known, for the walk. -/
theorem wpList_append_run {P : Program} {w : World} {ops : Array Oper} {rest : List Oper} {o : Oper} {a : Act} {Q : Exit → Act → World → Prop}
    (hg : o.guard = none) (s x : Operand) (t : TypeId) (hop : o.op = Op.call { callee := Callee.builtin Builtin.append, args := #[s, x], argTypes := #[t, t] })
    {vs vx v' : Value} {W2 : World} (hs : a.eval s = vs) (hx : a.eval x = vx) (hrun : ∀ ty, (Builtin.append_ #[t, t] ty #[vs, vx]).run P w = .ok v' W2)
    (hK : wpList P ops Q rest (a.put o.dst v') W2) : wpList P ops Q (o :: rest) a w := by
  refine wpList_plain hg fun K hK' => ?_
  unfold Oper.wp
  simp [execOp, hop, resolve, invoke, builtin, hs, hx, hrun, Result.andThen]
  exact hK' _ _ hK

theorem okAt_byte {i : Nat} {c : Int} (h : OkAt i c) : 0 ≤ c ∧ c ≤ 255 := by
  by_cases hh : hy i
  · have := h.1 hh; omega
  · have := h.2 hh; unfold hexC at this; omega

/-- Where the k-th digit's turn begins. -/
def pos (k : Nat) : Nat := if k ≤ 8 then k else if k ≤ 12 then k + 1 else if k ≤ 16 then k + 2 else if k ≤ 20 then k + 3 else k + 4
theorem pos_cases (k : Nat) : (k ≤ 8 ∧ pos k = k) ∨ (8 < k ∧ k ≤ 12 ∧ pos k = k + 1) ∨ (12 < k ∧ k ≤ 16 ∧ pos k = k + 2) ∨ (16 < k ∧ k ≤ 20 ∧ pos k = k + 3) ∨ (20 < k ∧ pos k = k + 4) := by
  unfold pos
  repeat' split
  all_goals omega
theorem pos_plain (k : Nat) (h : ¬ (k = 8 ∨ k = 12 ∨ k = 16 ∨ k = 20)) : pos (k + 1) = pos k + 1 ∧ ¬ hy (pos k) := by
  have h1 := pos_cases k
  have h2 := pos_cases (k + 1)
  unfold hy
  omega
theorem pos_hy (k : Nat) (h : k = 8 ∨ k = 12 ∨ k = 16 ∨ k = 20) : pos (k + 1) = pos k + 2 ∧ hy (pos k) ∧ ¬ hy (pos k + 1) := by
  have h1 := pos_cases k
  have h2 := pos_cases (k + 1)
  unfold hy
  omega

set_option maxHeartbeats 400000 in
theorem render_any (hi lo mask : Int) (w : World) (h1 : 0 ≤ hi) (h2 : 0 ≤ lo) (h3 : 0 ≤ mask) :
    Calls Try.prog 18 #[.int .u64 hi, .int .u64 lo, .int .u32 mask] w fun e w' => (∃ t : ByteArray, e = .returned (.string t) ∧ t.size = 36 ∧ ∀ j, j < 36 → OkAt j (zOf t.data.toList j)) ∧ Below w.heap.size w w' := by
  obtain ⟨i0, hi0, hz0, hz1, hz2⟩ := info_parts info5
  have hmk := run_make w 27 5 i0 (.int .u8 0) Try.underlying27 hi0 hz0 .i64 .i64 0 36 (by omega) (by omega) (by rw [hz2]; omega) (by omega)
  obtain ⟨W1, hW1⟩ : ∃ W1, W1 = w.alloc (.cells (madeCells (Value.int .u8 0).cells (Int.toNat 36 * i0.size)) 5) := ⟨_, rfl⟩
  have hrow : RowIs w.heap.size w W1 36 0 (fun _ => 0) := by
    subst hW1
    refine ⟨fun j hj => ?_, fun j _ => new_free _ _ _ _, fun j hj => by omega, (Below.refl _ _).alloc (Nat.le_refl _) _, by simp⟩
    rw [new_cell, Array.getElem?_eq_getElem (by rw [size_madeCells, hz1]; exact hj)]
    rfl
  rw [← hW1] at hmk
  clear hW1 hz0 hz1 hz2 hi0
  go_enter Try.func18, Try.ntmps18
  go_wp2
  go_loopw [7, 8] (fun b i wr => ∃ (k : Nat) (z : Nat → Int), k ≤ 32 ∧ i = .int .i64 k ∧ b = .slice (some ⟨w.heap.size, 0, none⟩) (pos k) 36 ∧ RowIs w.heap.size w wr 36 (pos k) z ∧ Hid (∀ j, j < pos k → OkAt j (z j))) (fun _ i _ => 32 - (intOf i).toNat)
  case atStart => exact ⟨0, _, by omega, rfl, rfl, hrow, fun j hj => by simp [pos] at hj⟩
  case round =>
    obtain ⟨k, z, hk, rfl, rfl, hr, hok⟩ := hrel
    clear hmk hrow
    by_cases hlt : k < 32
    · by_cases hq : k = 8 ∨ k = 12 ∨ k = 16 ∨ k = 20
      · obtain ⟨p1, p2, p3⟩ := pos_hy k hq
        have hpc := pos_cases k
        have hp36 : pos k + 1 < 36 := by omega
        obtain ⟨W2, z2, ha2, hr2, hok2⟩ := append_one hr (by omega) hok.out 45 ⟨fun _ => rfl, fun h => absurd p2 h⟩
        have HO : Hid (∀ j, j < pos k + 1 → OkAt j (z2 j)) := hok2
        have P1 : Hid (pos (k + 1) = pos k + 2) := p1
        have P3 : Hid (¬ hy (pos k + 1)) := p3
        clear p1 p2 p3 hpc hr hok hok2
        generalize pos k = n at *
        rcases hq with rfl | rfl | rfl | rfl
        all_goals
          go_wp2_with (first | (at_builtin; refine wpList_append_run rfl (.tmp 46) (.tmp 47) 27 rfl rfl rfl ha2 ?_) | (at_builtin; refine wpList_append_run rfl (.tmp 49) (.tmp 58) 27 rfl rfl rfl ha3 ?_) | (go_at_call 31; refine (hex_any _ _ _ (and15 _).1 (and15 _).2).mono ?_; rintro e w' ⟨⟨c, rfl, hc⟩, rfl⟩; obtain ⟨W3, z3, ha3, hr3, hok3⟩ := append_one hr2 hp36 HO.out c ⟨fun h => absurd h P3.out, fun _ => hc⟩; have HO3 : Hid (∀ j, j < n + 1 + 1 → OkAt j (z3 j)) := hok3; clear hok3))
          go_roundw
          case rel => first | exact ⟨8 + 1, z3, by omega, rfl, by rw [P1.out], by rw [P1.out]; exact hr3, by rw [P1.out]; exact HO3⟩ | exact ⟨12 + 1, z3, by omega, rfl, by rw [P1.out], by rw [P1.out]; exact hr3, by rw [P1.out]; exact HO3⟩ | exact ⟨16 + 1, z3, by omega, rfl, by rw [P1.out], by rw [P1.out]; exact hr3, by rw [P1.out]; exact HO3⟩ | exact ⟨20 + 1, z3, by omega, rfl, by rw [P1.out], by rw [P1.out]; exact hr3, by rw [P1.out]; exact HO3⟩
          case measure => simp [intOf]
      · obtain ⟨p1, p2⟩ := pos_plain k hq
        have hpc := pos_cases k
        have hp36 : pos k < 36 := by omega
        have e1 : ((k : Int) == 8) = false := by rw [beq_eq_false_iff_ne]; omega
        have e2 : ((k : Int) == 12) = false := by rw [beq_eq_false_iff_ne]; omega
        have e3 : ((k : Int) == 16) = false := by rw [beq_eq_false_iff_ne]; omega
        have e4 : ((k : Int) == 20) = false := by rw [beq_eq_false_iff_ne]; omega
        have P1 : Hid (pos (k + 1) = pos k + 1) := p1
        have P2 : Hid (¬ hy (pos k)) := p2
        clear p1 p2 hpc hq
        generalize pos k = n at *
        by_cases hk16 : k < 16
        all_goals
          go_wp2_with (first | (at_builtin; refine wpList_append_run rfl (.tmp 49) (.tmp 58) 27 rfl rfl rfl ha3 ?_) | (go_at_call 31; refine (hex_any _ _ _ (and15 _).1 (and15 _).2).mono ?_; rintro e w' ⟨⟨c, rfl, hc⟩, rfl⟩; obtain ⟨W3, z3, ha3, hr3, hok3⟩ := append_one hr hp36 hok.out c ⟨fun h => absurd h P2.out, fun _ => hc⟩; have HO3 : Hid (∀ j, j < n + 1 → OkAt j (z3 j)) := hok3; clear hok3))
          go_roundw
          case rel => exact ⟨k + 1, z3, by omega, by go_num, by rw [P1.out], by rw [P1.out]; exact hr3, by rw [P1.out]; exact HO3⟩
          case measure => simp [intOf]; omega
    · have ek : k = 32 := by omega
      subst ek
      have hr36 : RowIs w.heap.size w wr 36 36 z := hr
      have hok36 : ∀ j, j < 36 → OkAt j (z j) := hok.out
      have hlen : ((List.range 36).map fun j => UInt8.ofNat (z j).toNat).length = 36 := by simp
      have hzz : ∀ j (hj : j < ((List.range 36).map fun j => UInt8.ofNat (z j).toNat).length), z j = ((((List.range 36).map fun j => UInt8.ofNat (z j).toNat)[j]).toNat : Int) := by
        intro j hj
        have hj36 : j < 36 := by rw [hlen] at hj; exact hj
        have hb := okAt_byte (hok36 j hj36)
        rw [List.getElem_map, List.getElem_range, UInt8.toNat_ofNat']
        have : (z j).toNat % 2 ^ 8 = (z j).toNat := Nat.mod_eq_of_lt (by omega)
        rw [this]
        omega
      have hcv := fun c => hr36.text (c := c) _ hlen hzz
      have hb := hr36.bel
      have HT : Hid (∀ j, j < 36 → OkAt j (zOf ((List.range 36).map fun j => UInt8.ofNat (z j).toNat) j)) := fun j hj => by
        rw [zOf_at _ _ (by rw [hlen]; exact hj), ← hzz j (by rw [hlen]; exact hj)]
        exact hok36 j hj
      have HL : Hid (((List.range 36).map fun j => UInt8.ofNat (z j).toNat).length = 36) := hlen
      have hpos : pos 32 = 36 := rfl
      rw [hpos]
      clear hr hok hr36 hok36 hlen hzz
      generalize ((List.range 36).map fun j => UInt8.ofNat (z j).toNat) = L at *
      go_wp2
      go_ret
      exact ⟨⟨_, rfl, HL.out, HT.out⟩, hb⟩
end Go.Proofs.Qxb6600171a
