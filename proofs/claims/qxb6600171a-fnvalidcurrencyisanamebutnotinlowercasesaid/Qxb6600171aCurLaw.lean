/-
  The walk of the law FnValidCurrencyIsANameButNotInLowerCase (10).
-/
import Derived.Test.Qxb6600171aLower
import Derived.Test.Qxb6600171aNameLaw
namespace Go.Proofs.Qxb6600171a
open Go.RowKit
open Pl
set_option linter.unusedVariables false

theorem zOf_map (bs : List UInt8) (f : UInt8 → UInt8) (i : Nat) (h : i < bs.length) : zOf (bs.map f) i = ((f bs[i]).toNat : Int) := by
  rw [zOf_at _ _ (by simpa using h)]; simp

theorem cur_parts (bs : List UInt8) (h : curB bs = true) : 1 ≤ bs.length ∧ bs.length ≤ 12 ∧ (65 ≤ zOf bs 0 ∧ zOf bs 0 ≤ 90) ∧ ∀ i, i < bs.length → (65 ≤ zOf bs i ∧ zOf bs i ≤ 90) ∨ (48 ≤ zOf bs i ∧ zOf bs i ≤ 57) := by
  unfold curB at h
  simp only [Bool.and_eq_true, decide_eq_true_eq] at h
  obtain ⟨⟨⟨h1, h2⟩, h3⟩, h4⟩ := h
  exact ⟨h1, h2, (upB_iff _).1 h3, fun i hi => (cuB_iff _).1 ((allZ_iff _ _ _).1 h4 i hi)⟩

theorem not_dots (bs : List UInt8) (h : 1 ≤ bs.length) (hz : zOf bs 0 ≠ 46) : (bs == [46]) = false ∧ (bs == [46, 46]) = false := by
  match bs, h with
  | c :: r, _ =>
    have hc : (c.toNat : Int) ≠ 46 := hz
    have hc' : c ≠ 46 := by intro e; rw [e] at hc; exact hc rfl
    constructor
    · rw [beq_eq_false_iff_ne]; intro e; injection e with e1 e2; exact hc' e1
    · rw [beq_eq_false_iff_ne]; intro e; injection e with e1 e2; exact hc' e1

theorem name_mk (bs : List UInt8) (h1 : 1 ≤ bs.length) (h2 : bs.length ≤ 200) (hz : zOf bs 0 ≠ 46) (hall : ∀ i, i < bs.length → nmB (zOf bs i) = true) : nameB bs = true := by
  have hd := not_dots bs h1 hz
  rw [nameB_all bs h1 h2 hd.1 hd.2]
  exact (allZ_iff _ _ _).2 hall

theorem cur_is_name (bs : List UInt8) (h : curB bs = true) : nameB bs = true := by
  obtain ⟨h1, h2, h3, h4⟩ := cur_parts bs h
  exact name_mk bs h1 (by omega) (by omega) (fun i hi => (nmB_iff _).2 (by have := h4 i hi; omega))

theorem low_at (bs : List UInt8) (i : Nat) (hi : i < bs.length) (h : (65 ≤ zOf bs i ∧ zOf bs i ≤ 90) ∨ (48 ≤ zOf bs i ∧ zOf bs i ≤ 57)) :
    (65 ≤ zOf bs i → zOf (bs.map lowU) i = zOf bs i + 32) ∧ (zOf bs i ≤ 57 → zOf (bs.map lowU) i = zOf bs i) := by
  rw [zOf_map bs lowU i hi]
  rw [zOf_at bs i hi] at h ⊢
  constructor
  · intro g; exact lowU_up _ (by omega) (by omega)
  · intro g; rw [lowU_no _ (by omega)]

theorem cur_low_name (bs : List UInt8) (h : curB bs = true) : nameB (bs.map lowU) = true := by
  obtain ⟨h1, h2, h3, h4⟩ := cur_parts bs h
  have l0 := low_at bs 0 (by omega) (.inl h3)
  refine name_mk _ (by simpa using h1) (by simp; omega) (by rw [l0.1 h3.1]; omega) (fun i hi => (nmB_iff _).2 ?_)
  have hi' : i < bs.length := by simpa using hi
  have hq := h4 i hi'
  have l := low_at bs i hi' hq
  rcases hq with g | g
  · have := l.1 g.1; omega
  · have := l.2 g.2; omega

theorem cur_low_not (bs : List UInt8) (h : curB bs = true) : curB (bs.map lowU) = false := by
  obtain ⟨h1, h2, h3, h4⟩ := cur_parts bs h
  have l0 := (low_at bs 0 (by omega) (.inl h3)).1 h3.1
  have : upB (zOf (bs.map lowU) 0) = false := (upB_no _).2 (by omega)
  unfold curB
  rw [this]
  simp

theorem zzCur_any (s : ByteArray) (w : World) (hs : s.size ≤ maxLen) :
    Calls Try.prog 26 #[.string s] w fun e w' => e = .returned (.bool (curB s.data.toList)) ∧ Below w.heap.size w w' := by
  have K := validCurrency_any s w hs
  go_enter Try.func26, Try.ntmps26
  go_wp2_with (go_at_call 33; refine K.mono ?_; rintro e w' ⟨rfl, hb⟩)
  go_ret
  exact ⟨rfl, hb⟩

set_option maxHeartbeats 400000 in
theorem cur_walk (a0 : ByteArray) (w0 : a0.size ≤ maxLen) (w : World) :
    Calls Try.prog 10 #[.string a0] w fun e w' => e = .returned (.bool true) ∧ Below w.heap.size w w' := by
  have hm := w0
  unfold maxLen at w0
  by_cases c0 : 1048576 < a0.size
  · go_enter Try.func10, Try.ntmps10
    go_wp2
    go_ret
    exact ⟨rfl, Below.refl _ _⟩
  by_cases c1 : curB a0.data.toList = true
  case neg =>
    have c1' : curB a0.data.toList = false := by simpa using c1
    have K := zzCur_any a0 w hm
    rw [c1'] at K
    clear c1 c1'
    go_enter Try.func10, Try.ntmps10
    go_wp2_with (first | (go_at_call 26; refine K.mono ?_; rintro e w1 ⟨rfl, hb⟩) | (go_at_call 25; go_in))
    go_ret
    exact ⟨rfl, hb⟩
  have K := zzCur_any a0 w hm
  rw [c1] at K
  have L := fun W => lower_any a0 W (by omega)
  have N1 := fun W => zzName_any a0 W hm
  rw [cur_is_name _ c1] at N1
  have T : ∀ t : ByteArray, t.data.toList = a0.data.toList.map lowU → (∀ W, Calls Try.prog 20 #[.string t] W fun e w' => e = .returned (.bool true) ∧ Below W.heap.size W w') ∧ (∀ W, Calls Try.prog 26 #[.string t] W fun e w' => e = .returned (.bool false) ∧ Below W.heap.size W w') := by
    intro t ht
    have hts : t.size ≤ maxLen := by
      have e1 : t.size = t.data.toList.length := by simp
      rw [e1, ht]
      simpa using hm
    constructor
    · intro W
      have := zzName_any t W hts
      rw [ht, cur_low_name _ c1] at this
      exact this
    · intro W
      have := zzCur_any t W hts
      rw [ht, cur_low_not _ c1] at this
      exact this
  have tok1 : True := trivial
  have tok2 : True := trivial
  clear c1 hm
  go_enter Try.func10, Try.ntmps10
  go_wp2_with (first | (go_at_call 26; have _t := tok1; refine K.mono ?_; rintro e w1 ⟨rfl, hb1⟩; clear tok1) | (go_at_call 16; refine (L _).mono ?_; rintro e w2 ⟨⟨t, rfl, ht⟩, hb2⟩; obtain ⟨T1, T2⟩ := T t ht.out) | (go_at_call 20; have _t := tok2; refine (N1 _).mono ?_; rintro e w3 ⟨rfl, hb3⟩; clear tok2) | (go_at_call 20; refine (T1 _).mono ?_; rintro e w4 ⟨rfl, hb4⟩) | (go_at_call 26; refine (T2 _).mono ?_; rintro e w5 ⟨rfl, hb5⟩) | (go_at_call 25; go_in))
  go_ret
  have s1 := hb1.size
  have s2 := hb2.size
  have s3 := hb3.size
  have s4 := hb4.size
  exact ⟨rfl, (((hb1.trans (hb2.mono (by omega))).trans (hb3.mono (by omega))).trans (hb4.mono (by omega))).trans (hb5.mono (by omega))⟩
end Go.Proofs.Qxb6600171a
