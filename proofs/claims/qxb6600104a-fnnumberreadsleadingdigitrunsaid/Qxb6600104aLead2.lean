/-
  The walk of the law FnNumberReadsLeadingDigitRun (5): rest holds bytes.
-/
import Derived.Test.Qxb6600104aLead
namespace Go.Proofs.Qxb6600104a
open Go.RowKit
open Pl
set_option linter.unusedVariables false

set_option maxHeartbeats 1600000 in
/-- The law's walk where number refuses: K says what ZZNumber does. -/
theorem lead_no (b off cap len n : Nat) (ok : Bool) (line : ByteArray) (w : World) (z : Nat → Int) (hb : b < w.heap.size) (hz : ∀ i, i < len → w.cell? ⟨b, off + i, none⟩ = some (.int .u8 (z i)))
    (hl1 : 1 ≤ len) (hl : len ≤ 1048576) (h2 : len + line.size ≤ 1048576) (hlc : len ≤ cap)
    (hn : n ≤ len) (hdig : ∀ i, i < n → 48 ≤ z i ∧ z i ≤ 57) (hstop : n < len → z n < 48 ∨ 57 < z n)
    (hno : ok = false ∨ n = 0 ∨ 18 < n ∨ (1 ≤ n ∧ n ≤ 18 ∧ z 0 = 48)) :
    Calls Try.prog 5 #[.slice (some ⟨b, off, none⟩) len cap, .bool ok, .string line] w fun e w' => e = .returned (.bool true) ∧ Below w.heap.size w w' := by
  have hne := fun W => run_neq_slice_nil_any (P := Try.prog) W 28 5 (some ⟨b, off, none⟩) len cap 0 0 Try.underlying28
  obtain ⟨W1, hmk, hb1, hs1, hc1, hf1⟩ := made w len hl
  obtain ⟨W2, hcp, hb2, hs2, hz2⟩ := copied w W1 b off cap len z hb hz hb1 hs1 hc1 hf1
  clear hb1 hs1 hc1 hf1 hz
  have K : Calls Try.prog 14 #[.slice (some ⟨w.heap.size, 0, none⟩) len len, .bool ok, .string line] W2 fun e w' =>
      e = .returned (.tuple #[.int .i64 0, .slice (some ⟨w.heap.size, 0, none⟩) len len, .bool false, .string line]) ∧ Below W2.heap.size W2 w' := by
    by_cases h19 : n ≤ 18
    · exact zzNumber_no w.heap.size 0 len len n ok z W2 line (Nat.le_refl _) (by unfold maxLen; omega) hs2 hz2 hn hdig (by
        by_cases h : n < len
        · rcases hstop h with g | g
          · exact .inr (.inr (.inl ⟨h19, h, g⟩))
          · exact .inr (.inr (.inr ⟨h19, h, g⟩))
        · exact .inr (.inl ⟨h19, h⟩)) hno
    · exact zzNumber_no w.heap.size 0 len len 19 ok z W2 line (Nat.le_refl _) (by unfold maxLen; omega) hs2 hz2 (by omega) (fun i hi => hdig i (by omega)) (.inl rfl) (.inr (.inr (.inl (by omega))))
  have S : ∀ w3, Below W2.heap.size W2 w3 → Calls Try.prog 15 #[.slice (some ⟨w.heap.size, 0, none⟩) len len, .slice (some ⟨w.heap.size, 0, none⟩) len len] w3 fun e w' => e = .returned (.bool true) ∧ ∃ n, w' = w3.drewN n := fun w3 h3 =>
    same_yes _ _ _ _ _ _ _ z w3 (by unfold maxLen; omega) (fun i hi => (h3.cell (p := ⟨w.heap.size, 0 + i, none⟩) hs2).trans (hz2 i hi)) (fun i hi => (h3.cell (p := ⟨w.heap.size, 0 + i, none⟩) hs2).trans (hz2 i hi))
  have hz3 : ∀ i, i < len → W2.cell? ⟨w.heap.size, i, none⟩ = some (.int .u8 (z i)) := fun i hi => by have := hz2 i hi; rwa [Nat.zero_add] at this
  clear hz2
  have HN : Hid (ok = false ∨ n = 0 ∨ 18 < n ∨ (1 ≤ n ∧ n ≤ 18 ∧ z 0 = 48)) := hno
  clear hno
  go_enter Try.func5, Try.ntmps5
  go_wp2_with (first | (go_at_call 13; go_in))
  go_loop [8] (fun i => ∃ k : Nat, k ≤ n ∧ i = .int .i64 k) (fun i => n - (intOf i).toNat)
  case atStart => exact ⟨0, Nat.zero_le _, rfl⟩
  case round =>
    obtain ⟨k, hk, rfl⟩ := hrel
    by_cases hlt : k < n
    · have hc := hz3 k (by omega)
      obtain ⟨g1, g2⟩ := hdig k hlt
      have hkl : k < len := by omega
      clear hz3 hdig HN K S hstop hmk hcp hne
      generalize z k = c at *
      go_wp2
      go_round
      case rel => exact ⟨k + 1, by omega, by go_num⟩
      case measure => simp [intOf]; omega
    · obtain rfl : k = n := by omega
      have hc0 := hz3 0 (by omega)
      have hcd : k < len → W2.cell? ⟨w.heap.size, k, none⟩ = some (.int .u8 (z k)) := hz3 k
      have HE : (¬ k < len) ∨ (k < len ∧ z k < 48) ∨ (k < len ∧ 57 < z k) := by
        by_cases h : k < len
        · rcases hstop h with g | g
          · exact .inr (.inl ⟨h, g⟩)
          · exact .inr (.inr ⟨h, g⟩)
        · exact .inl h
      clear hz3 hdig hstop hmk hcp hne
      by_cases hq : k = 0
      · subst hq
        clear HN
        rcases HE with hx | ⟨hx2, hx⟩ | ⟨hx2, hx⟩
        · omega
        all_goals
          clear hcd
          cases ok
          all_goals
            go_wp2_with (first | (go_at_call 14; refine K.mono ?_; rintro e w1 ⟨rfl, hb⟩) | (go_at_call 15; refine (S _ (by assumption)).mono ?_; rintro e w2 ⟨rfl, n, rfl⟩))
            go_ret
            exact ⟨rfl, below_drewN (hb2.trans (hb.mono (by omega))) _⟩
      · have hk1 : (1 : Int) ≤ (k : Int) := by omega
        have HN' : ok = false ∨ (ok = true ∧ 18 < k) ∨ (ok = true ∧ k ≤ 18 ∧ z 0 = 48) := by
          rcases HN.out with h | h
          · exact .inl h
          · cases ok
            · exact .inl rfl
            · right; simp; omega
        clear HN
        rcases HE with hx | ⟨hx2, hx⟩ | ⟨hx2, hx⟩ <;> rcases HN' with rfl | ⟨rfl, hy2⟩ | ⟨rfl, hy2, hy⟩
        all_goals
          try have hcd' := hcd hx2
          clear hcd
          try (have hy' : (z 0 != 48) = false := by simp [hy])
          try clear hy
          go_wp2_with (first | (go_at_call 14; refine K.mono ?_; rintro e w1 ⟨rfl, hb⟩) | (go_at_call 15; refine (S _ (by assumption)).mono ?_; rintro e w2 ⟨rfl, n, rfl⟩))
          go_ret
          exact ⟨rfl, below_drewN (hb2.trans (hb.mono (by omega))) _⟩

set_option maxHeartbeats 1600000 in
/-- The law's walk where number reads the run of n digits. -/
theorem lead_ok (b off cap n : Nat) (bs : List UInt8) (line : ByteArray) (w : World) (hb : b < w.heap.size) (hz : ∀ i, i < bs.length → w.cell? ⟨b, off + i, none⟩ = some (.int .u8 (zOf bs i)))
    (hl : bs.length ≤ 1048576) (h2 : bs.length + line.size ≤ 1048576) (hlc : bs.length ≤ cap)
    (hn1 : 1 ≤ n) (hn18 : n ≤ 18) (hn : n ≤ bs.length) (hall : ∀ k, k ≤ n → allD (bs.take k) = true) (hstop : n < bs.length → zOf bs n < 48 ∨ 57 < zOf bs n) (hnz : zOf bs 0 ≠ 48) :
    Calls Try.prog 5 #[.slice (some ⟨b, off, none⟩) bs.length cap, .bool true, .string line] w fun e w' => e = .returned (.bool true) ∧ Below w.heap.size w w' := by
  have hne := fun W => run_neq_slice_nil_any (P := Try.prog) W 28 5 (some ⟨b, off, none⟩) bs.length cap 0 0 Try.underlying28
  obtain ⟨W1, hmk, hb1, hs1, hc1, hf1⟩ := made w bs.length hl
  obtain ⟨W2, hcp, hb2, hs2, hz2⟩ := copied w W1 b off cap bs.length (zOf bs) hb hz hb1 hs1 hc1 hf1
  clear hb1 hs1 hc1 hf1 hz
  have hdig : ∀ i, i < n → 48 ≤ zOf bs i ∧ zOf bs i ≤ 57 := fun i hi => by
    rw [zOf_at _ _ (by omega)]
    have := allD_get (bs.take n) i (by simp; omega) (hall n (Nat.le_refl _))
    rwa [List.getElem_take] at this
  have hdz : ∀ k, k ≤ n → 0 ≤ dz (zOf bs) k ∧ dz (zOf bs) k < 1000000000000000000 := fun k hk => by
    rw [dz_take _ _ (by omega)]
    exact ⟨(dv_bd _ (hall k hk)).1, dv_short _ (hall k hk) (by simp; omega)⟩
  have hdn : dz (zOf bs) n = dv (bs.take n) := dz_take _ _ hn
  have K := zzNumber_ok w.heap.size 0 bs.length bs.length n (zOf bs) W2 line (Nat.le_refl _) (by unfold maxLen; omega) hs2 hz2 hn1 hn18 hn hdig (by simpa using hnz) (by
    by_cases h : n < bs.length
    · exact .inr ⟨h, hstop h⟩
    · exact .inl (by omega)) hdz
  rw [hdn] at K
  -- the digits, as a text
  have V : ∀ w3, Calls Try.prog 8 #[.string ⟨(bs.take n).toArray⟩] w3 fun e w' => e = .returned (.tuple #[.int .i64 (dv (bs.take n)), .bool true]) ∧ w' = w3 := fun w3 =>
    value_yes ⟨(bs.take n).toArray⟩ w3 (by unfold maxLen; show (bs.take n).toArray.size ≤ _; simp; omega) (hall n (Nat.le_refl _)) (dv_short _ (hall n (Nat.le_refl _)) (by simp; omega))
  have C : ∀ w3, Below W2.heap.size W2 w3 → (convert 28 9 (.slice (some ⟨w.heap.size, 0, none⟩) n bs.length)).run Try.prog w3 = .ok (.string ⟨(bs.take n).toArray⟩) w3 := fun w3 h3 => by
    have hlt : n = (bs.take n).length := by simp; omega
    have R := run_convert_bytes_back (P := Try.prog) w3 28 9 5 ⟨w.heap.size, 0, none⟩ bs.length (bs.take n) Try.underlying28 Try.underlying5 Try.underlying9 (fun j hj => by
      rw [addr_add, h3.cell (p := ⟨w.heap.size, 0 + j, none⟩) hs2, hz2 j (by simp at hj; omega), zOf_at _ _ (by simp at hj; omega)]
      simp)
    rw [← hlt] at R
    exact R
  have hz3 : ∀ i, i < bs.length → W2.cell? ⟨w.heap.size, i, none⟩ = some (.int .u8 (zOf bs i)) := fun i hi => by have := hz2 i hi; rwa [Nat.zero_add] at this
  have S : ∀ w3 o c, Below W2.heap.size W2 w3 → (n < bs.length → o = 0 + n) → n < bs.length → Calls Try.prog 15 #[.slice (some ⟨w.heap.size, o, none⟩) (bs.length - n) c, .slice (some ⟨w.heap.size, n, none⟩) (bs.length - n) (bs.length - n)] w3 fun e w' => e = .returned (.bool true) ∧ ∃ n, w' = w3.drewN n := fun w3 o c h3 ho hlt => by
    have ho' := ho hlt
    rw [Nat.zero_add] at ho'
    subst ho'
    exact same_yes _ _ _ _ _ _ _ (fun i => zOf bs (o + i)) w3 (by unfold maxLen; omega) (fun i hi => (h3.cell (p := ⟨w.heap.size, o + i, none⟩) hs2).trans (hz3 (o + i) (by omega))) (fun i hi => (h3.cell (p := ⟨w.heap.size, o + i, none⟩) hs2).trans (hz3 (o + i) (by omega)))
  have hnz' : (zOf bs 0 != 48) = true := by simpa using hnz
  clear hz2 hnz hdz hdn hall
  generalize zOf bs = z at *
  generalize dv (bs.take n) = v at *
  generalize (bs.take n).toArray = txt at *
  generalize bs.length = len at *
  go_enter Try.func5, Try.ntmps5
  go_wp2_with (first | (go_at_call 13; go_in))
  go_loop [8] (fun i => ∃ k : Nat, k ≤ n ∧ i = .int .i64 k) (fun i => n - (intOf i).toNat)
  case atStart => exact ⟨0, Nat.zero_le _, rfl⟩
  case round =>
    obtain ⟨k, hk, rfl⟩ := hrel
    by_cases hlt : k < n
    · have hc := hz3 k (by omega)
      obtain ⟨g1, g2⟩ := hdig k hlt
      have hkl : k < len := by omega
      clear hz3 hdig K S C V hstop hmk hcp hne hnz'
      generalize z k = c at *
      go_wp2
      go_round
      case rel => exact ⟨k + 1, by omega, by go_num⟩
      case measure => simp [intOf]; omega
    · obtain rfl : k = n := by omega
      have hc0 := hz3 0 (by omega)
      have hcd : k < len → W2.cell? ⟨w.heap.size, k, none⟩ = some (.int .u8 (z k)) := hz3 k
      have HE : (k = len) ∨ (k < len ∧ z k < 48) ∨ (k < len ∧ 57 < z k) := by
        by_cases h : k < len
        · rcases hstop h with g | g
          · exact .inr (.inl ⟨h, g⟩)
          · exact .inr (.inr ⟨h, g⟩)
        · exact .inl (by omega)
      clear hz3 hdig hstop hmk hcp hne
      rcases HE with hx | ⟨hx2, hx⟩ | ⟨hx2, hx⟩
      · subst hx
        clear hcd
        rw [Nat.sub_self] at K
        go_wp2_with (first | (go_at_call 14; refine K.mono ?_; rintro e w1 ⟨o, c, ho, rfl, hb⟩; have hcv := fun n => C (w1.drewN n) (below_drewN hb n)) | (go_at_call 15; refine (same_zero _ _ _ _ _).mono ?_; rintro e w2 ⟨rfl, n, rfl⟩) | (go_at_call 8; refine (V _).mono ?_; rintro e w2 ⟨rfl, rfl⟩))
        go_ret
        exact ⟨rfl, below_drewN (hb2.trans (hb.mono (by omega))) _⟩
      all_goals
        have hcd' := hcd hx2
        clear hcd
        go_wp2_with (first | (go_at_call 14; refine K.mono ?_; rintro e w1 ⟨o, c, ho, rfl, hb⟩; have hcv := fun n => C (w1.drewN n) (below_drewN hb n)) | (go_at_call 15; refine (S _ o c (by assumption) ho.out hx2).mono ?_; rintro e w2 ⟨rfl, n, rfl⟩) | (go_at_call 8; refine (V _).mono ?_; rintro e w2 ⟨rfl, rfl⟩))
        go_ret
        exact ⟨rfl, below_drewN (hb2.trans (hb.mono (by omega))) _⟩
end Go.Proofs.Qxb6600104a
