/-
  The walks of zzIndex (30) and zzModelName (22).
-/
import Derived.Test.Qxb6600171aBytes
namespace Go.Proofs.Qxb6600171a
open Go.RowKit
open Pl
set_option linter.unusedVariables false

set_option maxHeartbeats 400000 in
theorem index_yes (t : ByteArray) (c : Int) (w : World) (ht : t.size ≤ 1000) (p : Nat) (hp : p < t.size) (heq : (t[p].toNat : Int) = c) :
    Calls Try.prog 30 #[.string t, .int .u8 c] w fun e w' => (∃ r : Int, e = .returned (.int .i64 r) ∧ 0 ≤ r) ∧ w' = w := by
  go_enter Try.func30, Try.ntmps30
  go_wp2
  go_loop [5] (fun i => ∃ k : Nat, k ≤ p ∧ i = .int .i64 k) (fun i => p - (intOf i).toNat)
  case atStart => exact ⟨0, Nat.zero_le _, rfl⟩
  case round =>
    obtain ⟨k, hk, rfl⟩ := hrel
    have hlt : k < t.size := by omega
    by_cases hc : (t[k].toNat : Int) = c
    · have hc' : ((t[k].toNat : Int) == c) = true := by simp [hc]
      clear hc heq
      go_wp2
      go_ret
      exact ⟨⟨_, rfl, by omega⟩, rfl⟩
    · have hc' : ((t[k].toNat : Int) == c) = false := by simpa using hc
      have hkp : k < p := by
        rcases Nat.lt_or_ge k p with h | h
        · exact h
        · have e : k = p := by omega
          subst e
          exact absurd heq hc
      clear hc heq
      go_wp2
      go_round
      case rel => exact ⟨k + 1, by omega, by go_num⟩
      case measure => simp [intOf]; omega

set_option maxHeartbeats 400000 in
theorem index_no (t : ByteArray) (c : Int) (w : World) (ht : t.size ≤ 1000) (hne : ∀ p (hp : p < t.size), (t[p].toNat : Int) ≠ c) :
    Calls Try.prog 30 #[.string t, .int .u8 c] w fun e w' => e = .returned (.int .i64 (-1)) ∧ w' = w := by
  go_enter Try.func30, Try.ntmps30
  go_wp2
  go_loop [5] (fun i => ∃ k : Nat, k ≤ t.size ∧ i = .int .i64 k) (fun i => t.size - (intOf i).toNat)
  case atStart => exact ⟨0, Nat.zero_le _, rfl⟩
  case round =>
    obtain ⟨k, hk, rfl⟩ := hrel
    by_cases hlt : k < t.size
    · have hc' : ((t[k].toNat : Int) == c) = false := by simpa using hne k hlt
      clear hne
      go_wp2
      go_round
      case rel => exact ⟨k + 1, by omega, by go_num⟩
      case measure => simp [intOf]; omega
    · clear hne
      go_wp2
      go_ret
      exact ⟨rfl, rfl⟩

/-! The alphabet of names. -/
def alphaL : List UInt8 := [65, 66, 67, 68, 69, 70, 71, 72, 73, 74, 75, 76, 77, 78, 79, 80, 81, 82, 83, 84, 85, 86, 87, 88, 89, 90, 97, 98, 99, 100, 101, 102, 103, 104, 105, 106, 107, 108, 109, 110, 111, 112, 113, 114, 115, 116, 117, 118, 119, 120, 121, 122, 48, 49, 50, 51, 52, 53, 54, 55, 56, 57, 58, 45, 95, 46]
set_option maxRecDepth 100000 in
theorem alpha_all : ∀ n : Fin 256, nmB (n.val : Int) = alphaL.contains (UInt8.ofNat n.val) := by decide +kernel
theorem alpha_c (c : UInt8) : nmB (c.toNat : Int) = alphaL.contains c := by
  have := alpha_all ⟨c.toNat, c.toNat_lt⟩
  simpa using this

theorem alpha_yes (t : ByteArray) (ht : t.data.toList = alphaL) (c : UInt8) (h : nmB (c.toNat : Int) = true) : ∃ p, ∃ hp : p < t.size, (t[p].toNat : Int) = (c.toNat : Int) := by
  rw [alpha_c, ← ht] at h
  have hm : c ∈ t.data.toList := by simpa using h
  obtain ⟨p, hp, e⟩ := List.getElem_of_mem hm
  exact ⟨p, by simpa using hp, by rw [← e]; rfl⟩
theorem alpha_no (t : ByteArray) (ht : t.data.toList = alphaL) (c : UInt8) (h : nmB (c.toNat : Int) = false) : ∀ p (hp : p < t.size), (t[p].toNat : Int) ≠ (c.toNat : Int) := by
  intro p hp e
  rw [alpha_c, ← ht] at h
  have hm : c ∈ t.data.toList := by
    have e' : t.data.toList[p]'(by simpa using hp) = c := by
      apply UInt8.toNat_inj.1
      have : (t[p].toNat : Int) = ((t.data.toList[p]'(by simpa using hp)).toNat : Int) := rfl
      omega
    rw [← e']
    exact List.getElem_mem _
  simp at h
  simp at hm
  exact h hm
theorem alpha_size (t : ByteArray) (ht : t.data.toList = alphaL) : t.size ≤ 1000 := by
  have : t.size = t.data.toList.length := by simp
  rw [this, ht]
  decide

theorem index_alpha_yes (c : UInt8) (h : nmB (c.toNat : Int) = true) (w : World) : Calls Try.prog 30 #[.string ⟨#[65, 66, 67, 68, 69, 70, 71, 72, 73, 74, 75, 76, 77, 78, 79, 80, 81, 82, 83, 84, 85, 86, 87, 88, 89, 90, 97, 98, 99, 100, 101, 102, 103, 104, 105, 106, 107, 108, 109, 110, 111, 112, 113, 114, 115, 116, 117, 118, 119, 120, 121, 122, 48, 49, 50, 51, 52, 53, 54, 55, 56, 57, 58, 45, 95, 46]⟩, .int .u8 (c.toNat : Int)] w fun e w' => (∃ r : Int, e = .returned (.int .i64 r) ∧ 0 ≤ r) ∧ w' = w := by
  obtain ⟨p, hp, e⟩ := alpha_yes ⟨alphaL.toArray⟩ rfl c h
  exact index_yes ⟨alphaL.toArray⟩ _ w (alpha_size _ rfl) p hp e
theorem index_alpha_no (c : UInt8) (h : nmB (c.toNat : Int) = false) (w : World) : Calls Try.prog 30 #[.string ⟨#[65, 66, 67, 68, 69, 70, 71, 72, 73, 74, 75, 76, 77, 78, 79, 80, 81, 82, 83, 84, 85, 86, 87, 88, 89, 90, 97, 98, 99, 100, 101, 102, 103, 104, 105, 106, 107, 108, 109, 110, 111, 112, 113, 114, 115, 116, 117, 118, 119, 120, 121, 122, 48, 49, 50, 51, 52, 53, 54, 55, 56, 57, 58, 45, 95, 46]⟩, .int .u8 (c.toNat : Int)] w fun e w' => e = .returned (.int .i64 (-1)) ∧ w' = w :=
  index_no ⟨alphaL.toArray⟩ _ w (alpha_size _ rfl) (alpha_no ⟨alphaL.toArray⟩ rfl c h)

/-- How many of the first k are dots. -/
def dots (z : Nat → Int) : Nat → Nat
  | 0 => 0
  | k + 1 => dots z k + if z k = 46 then 1 else 0
theorem dots_le (z : Nat → Int) : ∀ k, dots z k ≤ k
  | 0 => Nat.le_refl _
  | k + 1 => by have := dots_le z k; unfold dots; split <;> omega
theorem dots_all (z : Nat → Int) : ∀ n, dots z n = n ↔ ∀ i, i < n → z i = 46
  | 0 => by simp [dots]
  | n + 1 => by
    have h1 := dots_le z n
    have ih := dots_all z n
    constructor
    · intro h i hi
      unfold dots at h
      by_cases e : z n = 46
      · rw [if_pos e] at h
        rcases Nat.lt_or_ge i n with g | g
        · exact ih.1 (by omega) i g
        · have : i = n := by omega
          rw [this]; exact e
      · rw [if_neg e] at h; omega
    · intro h
      unfold dots
      rw [if_pos (h n (by omega)), ih.2 (fun i hi => h i (by omega))]

/-- Where all bytes may stand in a name: a name is what is not one or two dots. -/
theorem nameB_dotted (bs : List UInt8) (h1 : 1 ≤ bs.length) (h2 : bs.length ≤ 200) (hall : allZ nmB (zOf bs) bs.length = true) : nameB bs = !(decide (dots (zOf bs) bs.length = bs.length) && decide (bs.length ≤ 2)) := by
  unfold nameB
  rw [decide_eq_true ⟨h1, h2⟩, hall]
  match bs, h1 with
  | [a], _ =>
    have e : (a == (46 : UInt8)) = decide (zOf [a] 0 = 46) := by
      rw [Bool.eq_iff_iff]
      simp only [beq_iff_eq, decide_eq_true_eq, zOf, List.getD_cons_zero]
      constructor
      · intro h; rw [h]; rfl
      · intro h; apply UInt8.toNat_inj.1; show a.toNat = 46; omega
    simp [dots, e]
  | [a, b], _ =>
    have e : ([a, b] == [(46 : UInt8), 46]) = decide (dots (zOf [a, b]) 2 = 2) := by
      rw [Bool.eq_iff_iff, decide_eq_true_eq, dots_all]
      simp only [beq_iff_eq, List.cons.injEq, and_true]
      constructor
      · rintro ⟨rfl, rfl⟩ i hi
        match i, hi with
        | 0, _ => rfl
        | 1, _ => rfl
      · intro h
        have h0 : (a.toNat : Int) = 46 := h 0 (by omega)
        have h1 : (b.toNat : Int) = 46 := h 1 (by omega)
        exact ⟨UInt8.toNat_inj.1 (by show a.toNat = 46; omega), UInt8.toNat_inj.1 (by show b.toNat = 46; omega)⟩
    have e0 : ([a, b] == [(46 : UInt8)]) = false := by simp
    rw [e, e0]
    simp
  | a :: b :: c :: r, _ =>
    simp

theorem zOf_byte (s : ByteArray) (k : Nat) (h : k < s.size) : zOf s.data.toList k = (s[k].toNat : Int) := by
  rw [zOf_at _ _ (by simpa using h)]; rfl

set_option maxHeartbeats 800000 in
theorem modelName_any (s : ByteArray) (w : World) (hs : s.size ≤ maxLen) :
    Calls Try.prog 22 #[.string s] w fun e w' => e = .returned (.bool (nameB s.data.toList)) ∧ w' = w := by
  unfold maxLen at hs
  have hsz : s.data.toList.length = s.size := by simp
  by_cases c1 : s.size < 1
  · have H : Hid (nameB s.data.toList = false) := by show _ = _; unfold nameB; rw [hsz, decide_eq_false (by omega)]; rfl
    have c1' : ((s.size : Int) == 0) = true := beq_iff_eq.2 (by omega)
    go_enter Try.func22, Try.ntmps22
    go_wp2
    go_ret
    exact ⟨ret_bool H.out.symm, rfl⟩
  by_cases c2 : 200 < s.size
  · have H : Hid (nameB s.data.toList = false) := by show _ = _; unfold nameB; rw [hsz, decide_eq_false (by omega)]; rfl
    have c1' : ((s.size : Int) == 0) = false := beq_eq_false_iff_ne.2 (by omega)
    go_enter Try.func22, Try.ntmps22
    go_wp2
    go_ret
    exact ⟨ret_bool H.out.symm, rfl⟩
  have c1' : ((s.size : Int) == 0) = false := beq_eq_false_iff_ne.2 (by omega)
  have HD : Hid (allZ nmB (zOf s.data.toList) s.size = true → nameB s.data.toList = !(decide (dots (zOf s.data.toList) s.size = s.size) && decide (s.size ≤ 2))) := by
    intro h
    have := nameB_dotted s.data.toList (by omega) (by omega) (by rw [hsz]; exact h)
    rwa [hsz] at this
  have HF : Hid (allZ nmB (zOf s.data.toList) s.size = false → nameB s.data.toList = false) := by
    intro h
    unfold nameB
    rw [hsz, h]
    simp
  clear hsz
  go_enter Try.func22, Try.ntmps22
  go_wp2
  go_loop [3, 4] (fun d i => ∃ k : Nat, k ≤ s.size ∧ i = .int .i64 k ∧ d = .int .i64 (dots (zOf s.data.toList) k : Nat) ∧ Hid (allZ nmB (zOf s.data.toList) k = true)) (fun _ i => s.size - (intOf i).toNat)
  case atStart => exact ⟨0, Nat.zero_le _, rfl, rfl, rfl⟩
  case round =>
    obtain ⟨k, hk, rfl, rfl, hall⟩ := hrel
    by_cases hlt : k < s.size
    · have hzb := zOf_byte s k hlt
      have hdl := dots_le (zOf s.data.toList) k
      have HB : Hid (dots (zOf s.data.toList) (k + 1) = dots (zOf s.data.toList) k + if zOf s.data.toList k = 46 then 1 else 0) := rfl
      have HA : Hid (allZ nmB (zOf s.data.toList) (k + 1) = (allZ nmB (zOf s.data.toList) k && nmB (zOf s.data.toList k))) := rfl
      by_cases hnm : nmB (s[k].toNat : Int) = true
      · have HS : Hid (allZ nmB (zOf s.data.toList) (k + 1) = true) := by
          show _ = _
          rw [HA.out, hall.out, hzb, hnm]; rfl
        by_cases hd : (s[k].toNat : Int) = 46
        · have HB' : Hid (dots (zOf s.data.toList) (k + 1) = dots (zOf s.data.toList) k + 1) := by
            show _ = _
            rw [HB.out, hzb, if_pos hd]
          have hd' : ((s[k].toNat : Int) == 46) = true := by simp [hd]
          clear hd hzb HA HB hall HD HF
          generalize dots (zOf s.data.toList) k = q at *
          go_wp2_with (go_at_call 30; refine (index_alpha_yes s[k] hnm _).mono ?_; rintro e w' ⟨⟨r, rfl, hr⟩, rfl⟩)
          go_round
          case rel => exact ⟨k + 1, by omega, by go_num, by rw [HB'.out]; go_num, HS⟩
          case measure => simp [intOf]; omega
        · have HB' : Hid (dots (zOf s.data.toList) (k + 1) = dots (zOf s.data.toList) k) := by
            show _ = _
            rw [HB.out, hzb, if_neg hd]; rfl
          have hd' : ((s[k].toNat : Int) == 46) = false := beq_eq_false_iff_ne.2 hd
          clear hd hzb HA HB hall HD HF
          generalize dots (zOf s.data.toList) k = q at *
          go_wp2_with (go_at_call 30; refine (index_alpha_yes s[k] hnm _).mono ?_; rintro e w' ⟨⟨r, rfl, hr⟩, rfl⟩)
          go_round
          case rel => exact ⟨k + 1, by omega, by go_num, by rw [HB'.out], HS⟩
          case measure => simp [intOf]; omega
      · have hnm' : nmB (s[k].toNat : Int) = false := by simpa using hnm
        have HS : Hid (nameB s.data.toList = false) := HF.out (allZ_no nmB _ _ k hlt (by rw [hzb]; exact hnm'))
        clear hzb HA HB hall HD HF hnm
        generalize dots (zOf s.data.toList) k = q at *
        go_wp2_with (go_at_call 30; refine (index_alpha_no s[k] hnm' _).mono ?_; rintro e w' ⟨rfl, rfl⟩)
        go_ret
        exact ⟨ret_bool HS.out.symm, rfl⟩
    · have ek : k = s.size := by omega
      have HS : Hid (nameB s.data.toList = !(decide (dots (zOf s.data.toList) k = s.size) && decide (s.size ≤ 2))) := by
        subst ek; exact HD.out hall.out
      have hdl := dots_le (zOf s.data.toList) k
      have hks : s.size ≤ k := by omega
      clear HD HF hall ek
      generalize dots (zOf s.data.toList) k = q at *
      by_cases hq : q = s.size
      · have hq' : ((q : Int) == (s.size : Int)) = true := beq_iff_eq.2 (by omega)
        have HS' : Hid (nameB s.data.toList = !decide (s.size ≤ 2)) := by
          show _ = _
          rw [HS.out, decide_eq_true hq]; rfl
        clear HS hq
        by_cases h2 : s.size ≤ 2
        · have HS2 : Hid (nameB s.data.toList = false) := by
            show _ = _
            rw [HS'.out, decide_eq_true h2]; rfl
          clear HS'
          go_wp2
          go_ret
          exact ⟨ret_bool (by first | exact HS2.out.symm | (rw [HS2.out]; simp; omega)), rfl⟩
        · have HS2 : Hid (nameB s.data.toList = true) := by
            show _ = _
            rw [HS'.out, decide_eq_false h2]; rfl
          clear HS'
          go_wp2
          go_ret
          exact ⟨ret_bool (by first | exact HS2.out.symm | (rw [HS2.out]; simp; omega)), rfl⟩
      · have hq' : ((q : Int) == (s.size : Int)) = false := beq_eq_false_iff_ne.2 (by omega)
        have HS' : Hid (nameB s.data.toList = true) := by
          show _ = _
          rw [HS.out, decide_eq_false hq]; rfl
        clear HS hq
        go_wp2
        go_ret
        exact ⟨ret_bool (by first | exact HS'.out.symm | (rw [HS'.out]; simp; omega)), rfl⟩
end Go.Proofs.Qxb6600171a
