/-
  The walks of leadingDigits (18) and parseExponent (14).
-/
import Derived.Test.Qxb6601621aScaledLaw
namespace Go.Proofs.Qxb6601621a
open Go.RowKit
open Pl
set_option linter.unusedVariables false

set_option maxHeartbeats 400000 in
/-- A text of digits alone: the whole of it. -/
theorem lead_all (s : ByteArray) (w : World) (hs : s.size ≤ 1048576) (ha : allD s.data.toList = true) :
    Calls Try.prog 18 #[.string s] w fun e w' => e = .returned (.string s) ∧ w' = w := by
  have HA : Hid (allD s.data.toList = true) := ha
  clear ha
  go_enter Try.func18, Try.ntmps18
  go_wp2
  go_loop [3] (fun i => ∃ k : Nat, k ≤ s.size ∧ i = .int .i64 k) (fun i => s.size - (intOf i).toNat)
  case atStart => exact ⟨0, Nat.zero_le _, rfl⟩
  case round =>
    obtain ⟨k, hk, rfl⟩ := hrel
    by_cases hlt : k < s.size
    · obtain ⟨g1, g2⟩ := (isD_int _).1 (allD_at s k hlt HA.out)
      go_wp2
      go_round
      case rel => exact ⟨k + 1, by omega, by go_num⟩
      case measure => simp [intOf]; omega
    · have HE : Hid (s.extract 0 k = s) := by
        show _ = _
        have e : k = s.size := by omega
        rw [e]
        simp
      have hks : s.size ≤ k := by omega
      go_wp2
      go_ret
      exact ⟨by rw [show Value.string s = Value.string (s.extract 0 k) by rw [HE.out]]; rfl, rfl⟩

set_option maxHeartbeats 400000 in
/-- A text that holds anything else: less than the whole of it. -/
theorem lead_not (s : ByteArray) (w : World) (hs : s.size ≤ 1048576) (ha : allD s.data.toList = false) :
    Calls Try.prog 18 #[.string s] w fun e w' => (∃ u : ByteArray, e = .returned (.string u) ∧ Hid (u.size < s.size)) ∧ w' = w := by
  have HA : Hid (allD s.data.toList = false) := ha
  clear ha
  go_enter Try.func18, Try.ntmps18
  go_wp2
  go_loop [3] (fun i => ∃ k : Nat, k ≤ s.size ∧ i = .int .i64 k ∧ Hid (allD (s.data.toList.take k) = true)) (fun i => s.size - (intOf i).toNat)
  case atStart => exact ⟨0, Nat.zero_le _, rfl, rfl⟩
  case round =>
    obtain ⟨k, hk, rfl, hall⟩ := hrel
    by_cases hlt : k < s.size
    · by_cases hd : isD s[k] = true
      · have HS : Hid (allD (s.data.toList.take (k + 1)) = true) := by
          show _ = _
          rw [allD_succ s k hlt, hall.out, hd]; rfl
        obtain ⟨g1, g2⟩ := (isD_int _).1 hd
        clear hd hall
        go_wp2
        go_round
        case rel => exact ⟨k + 1, by omega, by go_num, HS⟩
        case measure => simp [intOf]; omega
      · have hq := (isD_int_not s[k]).1 (by simpa using hd)
        have HE : Hid ((s.extract 0 k).size < s.size) := by
          show _ < _
          simp; omega
        clear hd hall
        rcases hq with g | g
        all_goals
          go_wp2
          go_ret
          exact ⟨⟨_, rfl, HE⟩, rfl⟩
    · exfalso
      have h1 := hall.out
      rw [List.take_of_length_le (by simp; omega), HA.out] at h1
      cases h1

/-- The text s is a sign, or none, and then t. -/
def Sg (s t : ByteArray) (neg : Bool) : Prop :=
  (s.toList.isEmpty = true ∧ s = t ∧ neg = false) ∨
  ∃ hp : 0 < s.size, s.toList.isEmpty = false ∧
    ((((s[0].toNat : Int) == 43) = true ∧ ((s[0].toNat : Int) == 45) = false ∧ s.extract 1 s.size = t ∧ neg = false) ∨
     (((s[0].toNat : Int) == 43) = false ∧ ((s[0].toNat : Int) == 45) = true ∧ s.extract 1 s.size = t ∧ neg = true) ∨
     (((s[0].toNat : Int) == 43) = false ∧ ((s[0].toNat : Int) == 45) = false ∧ s = t ∧ neg = false))

theorem isEmpty_of (s : ByteArray) : s.toList.isEmpty = decide (s.size = 0) := by
  rw [ByteArray.toList_eq, Bool.eq_iff_iff, List.isEmpty_iff, decide_eq_true_eq, ← List.length_eq_zero_iff]
  simp
theorem ne_of_size (u t : ByteArray) (h : u.size < t.size) : (u.toList == t.toList) = false := by
  rw [beq_eq_false_iff_ne]
  intro e
  rw [ByteArray.toList_eq, ByteArray.toList_eq] at e
  have h1 : u.size = u.data.toList.length := by simp
  have h2 : t.size = t.data.toList.length := by simp
  rw [h1, h2, e] at h
  omega

set_option maxHeartbeats 800000 in
/-- No digit, or something else among them: refused. -/
theorem parse_bad (s t : ByteArray) (neg : Bool) (lim : Int) (w : World) (hsg : Sg s t neg) (hs : s.size ≤ 1048576) (hts : t.size ≤ 1048576) (hb : t.size = 0 ∨ allD t.data.toList = false) :
    Calls Try.prog 14 #[.string s, .int .i64 lim] w fun e w' => e = .returned (.tuple #[.int .i64 0, .bool false]) ∧ Below w.heap.size w w' := by
  have hte := isEmpty_of t
  by_cases hz : t.size = 0
  · rw [decide_eq_true hz] at hte
    clear hb
    rcases hsg with ⟨h1, rfl, rfl⟩ | ⟨hp, h1, ⟨h2, h3, h4, rfl⟩ | ⟨h2, h3, h4, rfl⟩ | ⟨h2, h3, rfl, rfl⟩⟩
    · go_enter Try.func14, Try.ntmps14
      go_wp2
      go_ret2
      exact ⟨rfl, Below.refl _ _⟩
    · go_enter Try.func14, Try.ntmps14
      go_wp2
      go_ret2
      exact ⟨rfl, Below.refl _ _⟩
    · go_enter Try.func14, Try.ntmps14
      go_wp2
      go_ret2
      exact ⟨rfl, Below.refl _ _⟩
    · omega
  · rw [decide_eq_false hz] at hte
    have ha : allD t.data.toList = false := by rcases hb with h | h; exact absurd h hz; exact h
    have L := lead_not t w hts ha
    clear hb ha
    rcases hsg with ⟨h1, rfl, rfl⟩ | ⟨hp, h1, ⟨h2, h3, h4, rfl⟩ | ⟨h2, h3, h4, rfl⟩ | ⟨h2, h3, rfl, rfl⟩⟩
    · rw [h1] at hte; cases hte
    · go_enter Try.func14, Try.ntmps14
      go_wp2_with (go_at_call 18; refine L.mono ?_; rintro e w' ⟨⟨u, rfl, hu⟩, rfl⟩; have hne := ne_of_size u _ hu.out)
      go_ret2
      exact ⟨rfl, Below.refl _ _⟩
    · go_enter Try.func14, Try.ntmps14
      go_wp2_with (go_at_call 18; refine L.mono ?_; rintro e w' ⟨⟨u, rfl, hu⟩, rfl⟩; have hne := ne_of_size u _ hu.out)
      go_ret2
      exact ⟨rfl, Below.refl _ _⟩
    · go_enter Try.func14, Try.ntmps14
      go_wp2_with (go_at_call 18; refine L.mono ?_; rintro e w' ⟨⟨u, rfl, hu⟩, rfl⟩; have hne := ne_of_size u _ hu.out)
      go_ret2
      exact ⟨rfl, Below.refl _ _⟩

theorem int_eq {k : IntKind} {a b : Int} (h : a = b) : Value.int k a = .int k b := by rw [h]

/-- Cut to the limit. -/
def clampI (D L : Int) : Int := if D ≤ L then D else L
theorem clamp_le (D L : Int) (h : D ≤ L) : clampI D L = D := by unfold clampI; rw [if_pos h]
theorem clamp_gt (D L : Int) (h : L ≤ D) : clampI D L = L := by unfold clampI; split <;> omega
theorem clamp_bd (D L : Int) (h0 : 0 ≤ D) (hl : 0 ≤ L) : 0 ≤ clampI D L ∧ clampI D L ≤ L := by unfold clampI; split <;> omega
theorem clamp_step (D L d : Int) (h0 : 0 ≤ D) (hl : 0 ≤ L) (hd : 0 ≤ d) : clampI (D * 10 + d) L = clampI (clampI D L * 10 + d) L := by
  by_cases h : D ≤ L
  · rw [clamp_le D L h]
  · rw [clamp_gt D L (by omega), clamp_gt _ L (by omega), clamp_gt _ L (by omega)]

set_option maxHeartbeats 800000 in
theorem parse_good (s t : ByteArray) (neg : Bool) (lim : Int) (w : World) (hsg : Sg s t neg) (hs : s.size ≤ 1048576) (hts : t.size ≤ 1048576) (h0 : 0 ≤ lim) (hl : lim ≤ 922337203685477579) (hz : 0 < t.size) (ha : allD t.data.toList = true) :
    Calls Try.prog 14 #[.string s, .int .i64 lim] w fun e w' => e = .returned (.tuple #[.int .i64 (if neg then -clampI (dv t.data.toList) lim else clampI (dv t.data.toList) lim), .bool true]) ∧ Below w.heap.size w w' := by
  have hte := isEmpty_of t
  rw [decide_eq_false (by omega)] at hte
  have L := lead_all t w hts ha
  have HA : Hid (allD t.data.toList = true) := ha
  clear ha
  rcases hsg with ⟨h1, rfl, rfl⟩ | ⟨hp, h1, ⟨h2, h3, h4, rfl⟩ | ⟨h2, h3, h4, rfl⟩ | ⟨h2, h3, rfl, rfl⟩⟩
  · rw [h1] at hte; cases hte
  · go_enter Try.func14, Try.ntmps14
    go_wp2_with (go_at_call 18; refine L.mono ?_; rintro e w' ⟨rfl, rfl⟩)
    go_loopg [7] t.size (fun g n wr => ∃ k : Nat, k ≤ t.size ∧ g = t.size - k ∧ n = .int .i64 (clampI (dv (t.data.toList.take k)) lim) ∧ wr = w'.iter t k)
    case atStart => exact ⟨0, Nat.zero_le _, by omega, by rw [clamp_le _ _ (show dv (t.data.toList.take 0) ≤ lim from h0)]; rfl, rfl⟩
    case round =>
      obtain ⟨k, hk, rfl, rfl, rfl⟩ := hrel
      have b1 := (dv_bd _ (allD_take t.data.toList k HA.out)).1
      have b2 := clamp_bd (dv (t.data.toList.take k)) lim b1 h0
      by_cases hlt : k < t.size
      · have hd := (isD_int _).1 (allD_at t k hlt HA.out)
        have HS : Hid (clampI (dv (t.data.toList.take (k + 1))) lim = clampI (clampI (dv (t.data.toList.take k)) lim * 10 + ((t[k].toNat : Int) - 48)) lim) := by
          show _ = _
          rw [dv_succ t k hlt, clamp_step _ _ _ b1 h0 (by omega)]
        have hnx := next_digit w' _ rfl t k hlt hd.2
        obtain ⟨g1, g2⟩ := hd
        generalize clampI (dv (t.data.toList.take k)) lim = n at *
        obtain ⟨b3, b4⟩ := b2
        clear b1
        by_cases hm : n * 10 + ((t[k].toNat : Int) - 48) ≤ lim
        all_goals
          go_wp2
          all_goals
            go_roundg (t.size - (k + 1))
            case measure => omega
            case rel => exact ⟨k + 1, by omega, rfl, int_eq (by rw [HS.out]; unfold clampI; split <;> omega), rfl⟩
      · have hnx := next_end w' _ rfl t k hlt
        have HE : Hid (dv (t.data.toList.take k) = dv t.data.toList) := by
          show _ = _
          rw [List.take_of_length_le (by simp; omega)]
        rw [HE.out] at b2 ⊢
        obtain ⟨b3, b4⟩ := b2
        clear b1
        go_wp2
        go_ret2
        exact ⟨rfl, below_iter (Below.refl _ _) (Nat.le_refl _) _ _⟩
  · go_enter Try.func14, Try.ntmps14
    go_wp2_with (go_at_call 18; refine L.mono ?_; rintro e w' ⟨rfl, rfl⟩)
    go_loopg [7] t.size (fun g n wr => ∃ k : Nat, k ≤ t.size ∧ g = t.size - k ∧ n = .int .i64 (clampI (dv (t.data.toList.take k)) lim) ∧ wr = w'.iter t k)
    case atStart => exact ⟨0, Nat.zero_le _, by omega, by rw [clamp_le _ _ (show dv (t.data.toList.take 0) ≤ lim from h0)]; rfl, rfl⟩
    case round =>
      obtain ⟨k, hk, rfl, rfl, rfl⟩ := hrel
      have b1 := (dv_bd _ (allD_take t.data.toList k HA.out)).1
      have b2 := clamp_bd (dv (t.data.toList.take k)) lim b1 h0
      by_cases hlt : k < t.size
      · have hd := (isD_int _).1 (allD_at t k hlt HA.out)
        have HS : Hid (clampI (dv (t.data.toList.take (k + 1))) lim = clampI (clampI (dv (t.data.toList.take k)) lim * 10 + ((t[k].toNat : Int) - 48)) lim) := by
          show _ = _
          rw [dv_succ t k hlt, clamp_step _ _ _ b1 h0 (by omega)]
        have hnx := next_digit w' _ rfl t k hlt hd.2
        obtain ⟨g1, g2⟩ := hd
        generalize clampI (dv (t.data.toList.take k)) lim = n at *
        obtain ⟨b3, b4⟩ := b2
        clear b1
        by_cases hm : n * 10 + ((t[k].toNat : Int) - 48) ≤ lim
        all_goals
          go_wp2
          all_goals
            go_roundg (t.size - (k + 1))
            case measure => omega
            case rel => exact ⟨k + 1, by omega, rfl, int_eq (by rw [HS.out]; unfold clampI; split <;> omega), rfl⟩
      · have hnx := next_end w' _ rfl t k hlt
        have HE : Hid (dv (t.data.toList.take k) = dv t.data.toList) := by
          show _ = _
          rw [List.take_of_length_le (by simp; omega)]
        rw [HE.out] at b2 ⊢
        obtain ⟨b3, b4⟩ := b2
        clear b1
        go_wp2
        go_ret2
        exact ⟨rfl, below_iter (Below.refl _ _) (Nat.le_refl _) _ _⟩
  · go_enter Try.func14, Try.ntmps14
    go_wp2_with (go_at_call 18; refine L.mono ?_; rintro e w' ⟨rfl, rfl⟩)
    go_loopg [7] s.size (fun g n wr => ∃ k : Nat, k ≤ s.size ∧ g = s.size - k ∧ n = .int .i64 (clampI (dv (s.data.toList.take k)) lim) ∧ wr = w'.iter s k)
    case atStart => exact ⟨0, Nat.zero_le _, by omega, by rw [clamp_le _ _ (show dv (s.data.toList.take 0) ≤ lim from h0)]; rfl, rfl⟩
    case round =>
      obtain ⟨k, hk, rfl, rfl, rfl⟩ := hrel
      have b1 := (dv_bd _ (allD_take s.data.toList k HA.out)).1
      have b2 := clamp_bd (dv (s.data.toList.take k)) lim b1 h0
      by_cases hlt : k < s.size
      · have hd := (isD_int _).1 (allD_at s k hlt HA.out)
        have HS : Hid (clampI (dv (s.data.toList.take (k + 1))) lim = clampI (clampI (dv (s.data.toList.take k)) lim * 10 + ((s[k].toNat : Int) - 48)) lim) := by
          show _ = _
          rw [dv_succ s k hlt, clamp_step _ _ _ b1 h0 (by omega)]
        have hnx := next_digit w' _ rfl s k hlt hd.2
        obtain ⟨g1, g2⟩ := hd
        generalize clampI (dv (s.data.toList.take k)) lim = n at *
        obtain ⟨b3, b4⟩ := b2
        clear b1
        by_cases hm : n * 10 + ((s[k].toNat : Int) - 48) ≤ lim
        all_goals
          go_wp2
          all_goals
            go_roundg (s.size - (k + 1))
            case measure => omega
            case rel => exact ⟨k + 1, by omega, rfl, int_eq (by rw [HS.out]; unfold clampI; split <;> omega), rfl⟩
      · have hnx := next_end w' _ rfl s k hlt
        have HE : Hid (dv (s.data.toList.take k) = dv s.data.toList) := by
          show _ = _
          rw [List.take_of_length_le (by simp; omega)]
        rw [HE.out] at b2 ⊢
        obtain ⟨b3, b4⟩ := b2
        clear b1
        go_wp2
        go_ret2
        exact ⟨rfl, below_iter (Below.refl _ _) (Nat.le_refl _) _ _⟩
end Go.Proofs.Qxb6601621a
