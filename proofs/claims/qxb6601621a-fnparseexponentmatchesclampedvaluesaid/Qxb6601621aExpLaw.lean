/-
  The walk of zzExponentModel (8) where it refuses; the law FnParseExponentMatchesClampedValue (3).
-/
import Derived.Test.Qxb6601621aExpModel
namespace Go.Proofs.Qxb6601621a
open Go.RowKit
open Pl
set_option linter.unusedVariables false

theorem allD_of_places (s : ByteArray) (st : Nat) (h : ∀ i (hi : i < s.size), st ≤ i → isD s[i] = true) : allD (s.data.toList.drop st) = true := by
  unfold allD
  rw [List.all_eq_true]
  intro c hc
  obtain ⟨j, hj, e⟩ := List.getElem_of_mem hc
  rw [List.getElem_drop] at e
  have hj' : st + j < s.size := by simp at hj; omega
  rw [← e]
  exact h (st + j) hj' (by omega)

set_option maxHeartbeats 800000 in
theorem emodel_bad (s t : ByteArray) (neg : Bool) (lim : Int) (w : World) (hsg : Sg s t neg) (hs : s.size ≤ 1048576) (hb : t.size = 0 ∨ allD t.data.toList = false) :
    Calls Try.prog 8 #[.string s, .int .i64 lim] w fun e w' => e = .returned (.tuple #[.int .i64 0, .bool false]) ∧ w' = w := by
  rcases hsg with ⟨h1, rfl, rfl⟩ | ⟨hp, h1, ⟨h2, h3, h4, rfl⟩ | ⟨h2, h3, h4, rfl⟩ | ⟨h2, h3, rfl, rfl⟩⟩
  · have hz : s.size = 0 := by rw [isEmpty_of] at h1; simpa using h1
    have hbe : ((0 : Int) == (s.size : Int)) = true := by rw [beq_iff_eq]; omega
    have hp' : ¬ (0 : Int) < (s.size : Int) := by omega
    clear hz h1 hb
    go_enter Try.func8, Try.ntmps8
    go_wp2
    go_ret2
    exact ⟨rfl, rfl⟩
  · have hsz : t.size = s.size - 1 := by rw [← h4]; simp
    have hdt : t.data.toList = s.data.toList.drop 1 := by rw [← h4]; exact tail_data s
    clear h4 h1
    by_cases hz : s.size = 1
    · have hbe : ((1 : Int) == (s.size : Int)) = true := by rw [beq_iff_eq]; omega
      have hp' : (0 : Int) < (s.size : Int) := by omega
      clear hb hdt hsz hz
      go_enter Try.func8, Try.ntmps8
      go_wp2
      go_ret2
      exact ⟨rfl, rfl⟩
    have hsz1 : 1 < s.size := by omega
    have HA : Hid ((∀ i (h : i < s.size), 1 ≤ i → isD s[i] = true) → false = true) := fun h => by
      have g := allD_of_places s 1 h
      rcases hb with e | e
      · omega
      · rw [hdt, g] at e; cases e
    clear hb hdt hsz hz
    have hbe : ((1 : Int) == (s.size : Int)) = false := by rw [beq_eq_false_iff_ne]; omega
    have hp' : (0 : Int) < (s.size : Int) := by omega
    go_enter Try.func8, Try.ntmps8
    go_wp2
    go_loop [8] (fun i => ∃ k : Nat, 1 ≤ k ∧ k ≤ s.size ∧ i = .int .i64 k ∧ Hid (∀ i (h : i < s.size), 1 ≤ i → i < k → isD s[i] = true)) (fun i => s.size - (intOf i).toNat)
    case atStart => exact ⟨1, by omega, by omega, rfl, fun i h a b => by omega⟩
    case round =>
      obtain ⟨k, hk1, hk, rfl, hall⟩ := hrel
      by_cases hlt : k < s.size
      · have hg := dgB_isD s[k]
        by_cases hd : isD s[k] = true
        · have HS : Hid (∀ i (h : i < s.size), 1 ≤ i → i < k + 1 → isD s[i] = true) := fun i h a b => by
            rcases Nat.lt_or_ge i k with g | g
            · exact hall.out i h a g
            · have e : i = k := by omega
              subst e; exact hd
          have hg' : dgB (s[k].toNat : Int) = true := hg.trans hd
          clear hg hd hall HA
          go_wp2_with (go_at_call 10; refine (isDigit_any _ _).mono ?_; rintro e w' ⟨rfl, rfl⟩)
          go_round
          case rel => exact ⟨k + 1, by omega, by omega, by go_num, HS⟩
          case measure => simp [intOf]; omega
        · have hg' : dgB (s[k].toNat : Int) = false := hg.trans (by simpa using hd)
          clear hg hd hall HA
          go_wp2_with (go_at_call 10; refine (isDigit_any _ _).mono ?_; rintro e w' ⟨rfl, rfl⟩)
          go_ret2
          exact ⟨rfl, rfl⟩
      · exfalso
        have := HA.out (fun i h a => hall.out i h a (by omega))
        cases this
  · have hsz : t.size = s.size - 1 := by rw [← h4]; simp
    have hdt : t.data.toList = s.data.toList.drop 1 := by rw [← h4]; exact tail_data s
    clear h4 h1
    by_cases hz : s.size = 1
    · have hbe : ((1 : Int) == (s.size : Int)) = true := by rw [beq_iff_eq]; omega
      have hp' : (0 : Int) < (s.size : Int) := by omega
      clear hb hdt hsz hz
      go_enter Try.func8, Try.ntmps8
      go_wp2
      go_ret2
      exact ⟨rfl, rfl⟩
    have hsz1 : 1 < s.size := by omega
    have HA : Hid ((∀ i (h : i < s.size), 1 ≤ i → isD s[i] = true) → false = true) := fun h => by
      have g := allD_of_places s 1 h
      rcases hb with e | e
      · omega
      · rw [hdt, g] at e; cases e
    clear hb hdt hsz hz
    have hbe : ((1 : Int) == (s.size : Int)) = false := by rw [beq_eq_false_iff_ne]; omega
    have hp' : (0 : Int) < (s.size : Int) := by omega
    go_enter Try.func8, Try.ntmps8
    go_wp2
    go_loop [8] (fun i => ∃ k : Nat, 1 ≤ k ∧ k ≤ s.size ∧ i = .int .i64 k ∧ Hid (∀ i (h : i < s.size), 1 ≤ i → i < k → isD s[i] = true)) (fun i => s.size - (intOf i).toNat)
    case atStart => exact ⟨1, by omega, by omega, rfl, fun i h a b => by omega⟩
    case round =>
      obtain ⟨k, hk1, hk, rfl, hall⟩ := hrel
      by_cases hlt : k < s.size
      · have hg := dgB_isD s[k]
        by_cases hd : isD s[k] = true
        · have HS : Hid (∀ i (h : i < s.size), 1 ≤ i → i < k + 1 → isD s[i] = true) := fun i h a b => by
            rcases Nat.lt_or_ge i k with g | g
            · exact hall.out i h a g
            · have e : i = k := by omega
              subst e; exact hd
          have hg' : dgB (s[k].toNat : Int) = true := hg.trans hd
          clear hg hd hall HA
          go_wp2_with (go_at_call 10; refine (isDigit_any _ _).mono ?_; rintro e w' ⟨rfl, rfl⟩)
          go_round
          case rel => exact ⟨k + 1, by omega, by omega, by go_num, HS⟩
          case measure => simp [intOf]; omega
        · have hg' : dgB (s[k].toNat : Int) = false := hg.trans (by simpa using hd)
          clear hg hd hall HA
          go_wp2_with (go_at_call 10; refine (isDigit_any _ _).mono ?_; rintro e w' ⟨rfl, rfl⟩)
          go_ret2
          exact ⟨rfl, rfl⟩
      · exfalso
        have := HA.out (fun i h a => hall.out i h a (by omega))
        cases this
  · have hsz1 : 0 < s.size := hp
    have HA : Hid ((∀ i (h : i < s.size), 0 ≤ i → isD s[i] = true) → false = true) := fun h => by
      have g := allD_of_places s 0 h
      rcases hb with e | e
      · omega
      · rw [List.drop_zero] at g; rw [g] at e; cases e
    clear hb h1
    have hbe : ((0 : Int) == (s.size : Int)) = false := by rw [beq_eq_false_iff_ne]; omega
    have hp' : (0 : Int) < (s.size : Int) := by omega
    go_enter Try.func8, Try.ntmps8
    go_wp2
    go_loop [8] (fun i => ∃ k : Nat, 0 ≤ k ∧ k ≤ s.size ∧ i = .int .i64 k ∧ Hid (∀ i (h : i < s.size), 0 ≤ i → i < k → isD s[i] = true)) (fun i => s.size - (intOf i).toNat)
    case atStart => exact ⟨0, by omega, by omega, rfl, fun i h a b => by omega⟩
    case round =>
      obtain ⟨k, hk1, hk, rfl, hall⟩ := hrel
      by_cases hlt : k < s.size
      · have hg := dgB_isD s[k]
        by_cases hd : isD s[k] = true
        · have HS : Hid (∀ i (h : i < s.size), 0 ≤ i → i < k + 1 → isD s[i] = true) := fun i h a b => by
            rcases Nat.lt_or_ge i k with g | g
            · exact hall.out i h a g
            · have e : i = k := by omega
              subst e; exact hd
          have hg' : dgB (s[k].toNat : Int) = true := hg.trans hd
          clear hg hd hall HA
          go_wp2_with (go_at_call 10; refine (isDigit_any _ _).mono ?_; rintro e w' ⟨rfl, rfl⟩)
          go_round
          case rel => exact ⟨k + 1, by omega, by omega, by go_num, HS⟩
          case measure => simp [intOf]; omega
        · have hg' : dgB (s[k].toNat : Int) = false := hg.trans (by simpa using hd)
          clear hg hd hall HA
          go_wp2_with (go_at_call 10; refine (isDigit_any _ _).mono ?_; rintro e w' ⟨rfl, rfl⟩)
          go_ret2
          exact ⟨rfl, rfl⟩
      · exfalso
        have := HA.out (fun i h a => hall.out i h a (by omega))
        cases this

theorem emodel_good (s t : ByteArray) (neg : Bool) (lim : Int) (w : World) (hsg : Sg s t neg) (hs : s.size ≤ 1048576) (h0 : 0 ≤ lim) (hl : lim ≤ 922337203685477579) (hz : 0 < t.size) (ha : allD t.data.toList = true) :
    Calls Try.prog 8 #[.string s, .int .i64 lim] w fun e w' => e = .returned (.tuple #[.int .i64 (if neg then -clampI (dv t.data.toList) lim else clampI (dv t.data.toList) lim), .bool true]) ∧ w' = w := by
  rcases hsg with ⟨h1, rfl, rfl⟩ | ⟨hp, h1, ⟨h2, h3, h4, rfl⟩ | ⟨h2, h3, h4, rfl⟩ | ⟨h2, h3, rfl, rfl⟩⟩
  · exfalso
    rw [isEmpty_of, decide_eq_true_eq] at h1
    omega
  · exact emodel_plus s t lim w hp h1 h2 h3 h4 hs h0 hl hz ha
  · exact emodel_minus s t lim w hp h1 h2 h3 h4 hs h0 hl hz ha
  · exact emodel_plain s lim w hp h1 h2 h3 hs h0 hl hz ha

/-- Every text is a sign, or none, and then the rest. -/
theorem sign_of (s : ByteArray) : ∃ t neg, Sg s t neg ∧ t.size ≤ s.size := by
  by_cases hp : 0 < s.size
  · have h1 : s.toList.isEmpty = false := by rw [isEmpty_of, decide_eq_false (by omega)]
    by_cases g1 : (s[0].toNat : Int) = 43
    · refine ⟨s.extract 1 s.size, false, .inr ⟨hp, h1, .inl ⟨by rw [beq_iff_eq]; exact g1, by rw [beq_eq_false_iff_ne]; omega, rfl, rfl⟩⟩, by simp⟩
    · by_cases g2 : (s[0].toNat : Int) = 45
      · refine ⟨s.extract 1 s.size, true, .inr ⟨hp, h1, .inr (.inl ⟨by rw [beq_eq_false_iff_ne]; exact g1, by rw [beq_iff_eq]; exact g2, rfl, rfl⟩)⟩, by simp⟩
      · exact ⟨s, false, .inr ⟨hp, h1, .inr (.inr ⟨by rw [beq_eq_false_iff_ne]; exact g1, by rw [beq_eq_false_iff_ne]; exact g2, rfl, rfl⟩)⟩, Nat.le_refl _⟩
  · exact ⟨s, false, .inl ⟨by rw [isEmpty_of, decide_eq_true (by omega)], rfl, rfl⟩, Nat.le_refl _⟩

/-- Both answer alike. -/
theorem exp_both (s : ByteArray) (lim : Int) (hs : s.size ≤ 1048576) (h0 : 0 ≤ lim) (hl : lim ≤ 922337203685477579) :
    ∃ (v : Int) (b : Bool), (∀ W, Calls Try.prog 14 #[.string s, .int .i64 lim] W fun e w' => e = .returned (.tuple #[.int .i64 v, .bool b]) ∧ Below W.heap.size W w') ∧
      ∀ W, Calls Try.prog 8 #[.string s, .int .i64 lim] W fun e w' => e = .returned (.tuple #[.int .i64 v, .bool b]) ∧ w' = W := by
  obtain ⟨t, neg, hsg, hts⟩ := sign_of s
  by_cases hz : 0 < t.size
  · by_cases ha : allD t.data.toList = true
    · exact ⟨_, _, fun W => parse_good s t neg lim W hsg hs (by omega) h0 hl hz ha, fun W => emodel_good s t neg lim W hsg hs h0 hl hz ha⟩
    · exact ⟨_, _, fun W => parse_bad s t neg lim W hsg hs (by omega) (.inr (by simpa using ha)), fun W => emodel_bad s t neg lim W hsg hs (.inr (by simpa using ha))⟩
  · exact ⟨_, _, fun W => parse_bad s t neg lim W hsg hs (by omega) (.inl (by omega)), fun W => emodel_bad s t neg lim W hsg hs (.inl (by omega))⟩

set_option maxHeartbeats 400000 in
theorem exp_walk (a0 : ByteArray) (a1 : Int) (w0 : a0.size ≤ maxLen) (w : World) :
    Calls Try.prog 3 #[.string a0, .int .i64 a1] w fun e w' => e = .returned (.bool true) ∧ Below w.heap.size w w' := by
  unfold maxLen at w0
  by_cases c0 : 1048576 < a0.size
  · go_enter Try.func3, Try.ntmps3
    go_wp2
    go_ret
    exact ⟨rfl, Below.refl _ _⟩
  by_cases c1 : a1 < 0
  · go_enter Try.func3, Try.ntmps3
    go_wp2
    go_ret
    exact ⟨rfl, Below.refl _ _⟩
  by_cases c2 : 922337203685477579 < a1
  · go_enter Try.func3, Try.ntmps3
    go_wp2
    go_ret
    exact ⟨rfl, Below.refl _ _⟩
  obtain ⟨v, b, K1, K2⟩ := exp_both a0 a1 (by omega) (by omega) (by omega)
  cases b
  all_goals
    go_enter Try.func3, Try.ntmps3
    go_wp2_with (first | (go_at_call 14; refine (K1 _).mono ?_; rintro e w1 ⟨rfl, hb⟩) | (go_at_call 8; refine (K2 _).mono ?_; rintro e w2 ⟨rfl, rfl⟩) | (go_at_call 6; go_in) | (go_at_call 7; go_in))
    go_ret
    exact ⟨ret_bool (by simp), hb⟩
end Go.Proofs.Qxb6601621a
