/-
  The walk of zzExponentModel (8).
-/
import Derived.Test.Qxb6601621aExpPlain
namespace Go.Proofs.Qxb6601621a
open Go.RowKit
open Pl
set_option linter.unusedVariables false

theorem tail_data (s : ByteArray) : (s.extract 1 s.size).data.toList = s.data.toList.drop 1 := by
  simp
  rw [List.take_of_length_le (by simp)]

set_option maxHeartbeats 1600000 in
theorem emodel_plus (s t : ByteArray) (lim : Int) (w : World) (hp : 0 < s.size) (h1 : s.toList.isEmpty = false) (h2 : ((s[0].toNat : Int) == 43) = true) (h3 : ((s[0].toNat : Int) == 45) = false) (h4 : s.extract 1 s.size = t) (hs : s.size ≤ 1048576) (h0 : 0 ≤ lim) (hl : lim ≤ 922337203685477579) (hz : 0 < t.size) (ha : allD t.data.toList = true) :
    Calls Try.prog 8 #[.string s, .int .i64 lim] w fun e w' => e = .returned (.tuple #[.int .i64 (clampI (dv t.data.toList) lim), .bool true]) ∧ w' = w := by
  have hd1 : t.data.toList = s.data.toList.drop 1 := by rw [← h4]; exact tail_data s
  have hsz : t.size = s.size - 1 := by rw [← h4]; simp
  rw [hd1] at ha ⊢
  obtain ⟨f, f1, f2, f3, f4, f5⟩ := firstOf s 1 (by omega)
  rw [← f5]
  have HA : Hid (allD (s.data.toList.drop 1) = true) := ha
  have hbe : ((1 : Int) == (s.size : Int)) = false := by rw [beq_eq_false_iff_ne]; omega
  have hp' : (0 : Int) < (s.size : Int) := by omega
  have hsz1 : 1 < s.size := by omega
  have bd := clamp_bd (dv (s.data.toList.drop f)) lim (dv_bd _ (allD_later s 1 f f1 HA.out)).1 h0
  clear ha f5 hz h1 h4 hd1 hsz
  go_enter Try.func8, Try.ntmps8
  go_wp2
  go_loop [8] (fun i => ∃ k : Nat, 1 ≤ k ∧ k ≤ s.size ∧ i = .int .i64 k) (fun i => s.size - (intOf i).toNat)
  case atStart => exact ⟨1, by omega, by omega, rfl⟩
  case round =>
    obtain ⟨k, hk1, hk, rfl⟩ := hrel
    by_cases hlt : k < s.size
    · have hg : dgB (s[k].toNat : Int) = true := (dgB_isD s[k]).trans (allD_drop_at s 1 k hlt hk1 HA.out)
      clear HA f3 f4 bd
      go_wp2_with (go_at_call 10; refine (isDigit_any _ _).mono ?_; rintro e w' ⟨rfl, rfl⟩)
      go_round
      case rel => exact ⟨k + 1, by omega, by omega, by go_num⟩
      case measure => simp [intOf]; omega
    · go_wp2
      go_loop [9] (fun i => ∃ m : Nat, 1 ≤ m ∧ m ≤ f ∧ i = .int .i64 m) (fun i => f - (intOf i).toNat)
      case atStart => exact ⟨1, by omega, by omega, rfl⟩
      case round =>
        obtain ⟨m, hm1, hm, rfl⟩ := hrel
        by_cases hmf : m < f
        · have hms : m < s.size := by omega
          have hzz : ((s[m].toNat : Int) == 48) = true := by rw [beq_iff_eq]; have := f3 m hms hm1 hmf; omega
          clear HA f3 f4 bd
          go_wp2
          go_round
          case rel => exact ⟨m + 1, by omega, by omega, by go_num⟩
          case measure => simp [intOf]; omega
        · obtain rfl : m = f := by omega
          have CN := count_any lim w h0 hl
          by_cases hms : m < s.size
          · have hnz : ((s[m].toNat : Int) == 48) = false := by rw [beq_eq_false_iff_ne]; have := f4 hms; omega
            have hnz2 := f4 hms
            clear f3 f4
            go_wp2_with (go_at_call 15; refine CN.mono ?_; rintro e w' ⟨⟨nd, rfl, hnd, n1, n2⟩, rfl⟩)
            · have hcn : nd < s.size - m := by omega
              have HC : Hid (clampI (dv (s.data.toList.drop m)) lim = lim) := clamp_gt _ _ (dv_beyond s m nd lim hms hnz2 (allD_later s 1 m f1 HA.out) hcn hnd.out)
              go_ret2
              exact ⟨ret_ib (by rw [HC.out]) rfl, rfl⟩
            · have hcn : s.size - m ≤ nd := by omega
              clear hnz2
              go_loop [12, 13] (fun v i => ∃ q : Nat, m ≤ q ∧ q ≤ s.size ∧ i = .int .i64 q ∧ v = .int .i64 (dvr s m q)) (fun _ i => s.size - (intOf i).toNat)
              case atStart => exact ⟨m, Nat.le_refl _, by omega, rfl, by rw [dvr_start]⟩
              case round =>
                obtain ⟨q, hq1, hq, rfl, rfl⟩ := hrel
                have AM := allD_later s 1 m f1 HA.out
                have d1 := dvr_bd s m q hq (by omega) AM
                by_cases hqs : q < s.size
                · have d2 := dvr_bd s m (q + 1) (by omega) (by omega) AM
                  have HS : Hid (dvr s m (q + 1) = dvr s m q * 10 + ((s[q].toNat : Int) - 48)) := dvr_succ s m q hqs hq1
                  rw [HS.out] at d2
                  obtain ⟨g1, g2⟩ := (isD_int _).1 (allD_drop_at s 1 q hqs (by omega) HA.out)
                  obtain ⟨d3, d4⟩ := d1
                  obtain ⟨d5, d6⟩ := d2
                  clear AM HA bd
                  generalize dvr s m q = v at *
                  go_wp2
                  go_round
                  case rel => exact ⟨q + 1, by omega, by omega, by go_num, by rw [HS.out]⟩
                  case measure => simp [intOf]; omega
                · have HV : Hid (dvr s m q = dv (s.data.toList.drop m)) := by
                    show _ = _
                    have e : q = s.size := by omega
                    rw [e, dvr_end]
                  rw [HV.out] at d1 ⊢
                  obtain ⟨d3, d4⟩ := d1
                  have hqs' : s.size ≤ q := by omega
                  clear AM HA bd HV
                  by_cases hv : dv (s.data.toList.drop m) ≤ lim
                  · have HC : Hid (clampI (dv (s.data.toList.drop m)) lim = dv (s.data.toList.drop m)) := clamp_le _ _ hv
                    go_wp2
                    go_ret2
                    exact ⟨ret_ib (by rw [HC.out]) rfl, rfl⟩
                  · have HC : Hid (clampI (dv (s.data.toList.drop m)) lim = lim) := clamp_gt _ _ (by omega)
                    go_wp2
                    go_ret2
                    exact ⟨ret_ib (by rw [HC.out]) rfl, rfl⟩
          · clear f3 f4
            go_wp2_with (go_at_call 15; refine CN.mono ?_; rintro e w' ⟨⟨nd, rfl, hnd, n1, n2⟩, rfl⟩)
            go_loop [12, 13] (fun v i => ∃ q : Nat, m ≤ q ∧ q ≤ s.size ∧ i = .int .i64 q ∧ v = .int .i64 (dvr s m q)) (fun _ i => s.size - (intOf i).toNat)
            case atStart => exact ⟨m, Nat.le_refl _, by omega, rfl, by rw [dvr_start]⟩
            case round =>
              obtain ⟨q, hq1, hq, rfl, rfl⟩ := hrel
              have AM := allD_later s 1 m f1 HA.out
              have d1 := dvr_bd s m q hq (by omega) AM
              by_cases hqs : q < s.size
              · have d2 := dvr_bd s m (q + 1) (by omega) (by omega) AM
                have HS : Hid (dvr s m (q + 1) = dvr s m q * 10 + ((s[q].toNat : Int) - 48)) := dvr_succ s m q hqs hq1
                rw [HS.out] at d2
                obtain ⟨g1, g2⟩ := (isD_int _).1 (allD_drop_at s 1 q hqs (by omega) HA.out)
                obtain ⟨d3, d4⟩ := d1
                obtain ⟨d5, d6⟩ := d2
                clear AM HA bd
                generalize dvr s m q = v at *
                go_wp2
                go_round
                case rel => exact ⟨q + 1, by omega, by omega, by go_num, by rw [HS.out]⟩
                case measure => simp [intOf]; omega
              · have HV : Hid (dvr s m q = dv (s.data.toList.drop m)) := by
                  show _ = _
                  have e : q = s.size := by omega
                  rw [e, dvr_end]
                rw [HV.out] at d1 ⊢
                obtain ⟨d3, d4⟩ := d1
                have hqs' : s.size ≤ q := by omega
                clear AM HA bd HV
                by_cases hv : dv (s.data.toList.drop m) ≤ lim
                · have HC : Hid (clampI (dv (s.data.toList.drop m)) lim = dv (s.data.toList.drop m)) := clamp_le _ _ hv
                  go_wp2
                  go_ret2
                  exact ⟨ret_ib (by rw [HC.out]) rfl, rfl⟩
                · have HC : Hid (clampI (dv (s.data.toList.drop m)) lim = lim) := clamp_gt _ _ (by omega)
                  go_wp2
                  go_ret2
                  exact ⟨ret_ib (by rw [HC.out]) rfl, rfl⟩

set_option maxHeartbeats 1600000 in
theorem emodel_minus (s t : ByteArray) (lim : Int) (w : World) (hp : 0 < s.size) (h1 : s.toList.isEmpty = false) (h2 : ((s[0].toNat : Int) == 43) = false) (h3 : ((s[0].toNat : Int) == 45) = true) (h4 : s.extract 1 s.size = t) (hs : s.size ≤ 1048576) (h0 : 0 ≤ lim) (hl : lim ≤ 922337203685477579) (hz : 0 < t.size) (ha : allD t.data.toList = true) :
    Calls Try.prog 8 #[.string s, .int .i64 lim] w fun e w' => e = .returned (.tuple #[.int .i64 (-clampI (dv t.data.toList) lim), .bool true]) ∧ w' = w := by
  have hd1 : t.data.toList = s.data.toList.drop 1 := by rw [← h4]; exact tail_data s
  have hsz : t.size = s.size - 1 := by rw [← h4]; simp
  rw [hd1] at ha ⊢
  obtain ⟨f, f1, f2, f3, f4, f5⟩ := firstOf s 1 (by omega)
  rw [← f5]
  have HA : Hid (allD (s.data.toList.drop 1) = true) := ha
  have hbe : ((1 : Int) == (s.size : Int)) = false := by rw [beq_eq_false_iff_ne]; omega
  have hp' : (0 : Int) < (s.size : Int) := by omega
  have hsz1 : 1 < s.size := by omega
  have bd := clamp_bd (dv (s.data.toList.drop f)) lim (dv_bd _ (allD_later s 1 f f1 HA.out)).1 h0
  clear ha f5 hz h1 h4 hd1 hsz
  go_enter Try.func8, Try.ntmps8
  go_wp2
  go_loop [8] (fun i => ∃ k : Nat, 1 ≤ k ∧ k ≤ s.size ∧ i = .int .i64 k) (fun i => s.size - (intOf i).toNat)
  case atStart => exact ⟨1, by omega, by omega, rfl⟩
  case round =>
    obtain ⟨k, hk1, hk, rfl⟩ := hrel
    by_cases hlt : k < s.size
    · have hg : dgB (s[k].toNat : Int) = true := (dgB_isD s[k]).trans (allD_drop_at s 1 k hlt hk1 HA.out)
      clear HA f3 f4 bd
      go_wp2_with (go_at_call 10; refine (isDigit_any _ _).mono ?_; rintro e w' ⟨rfl, rfl⟩)
      go_round
      case rel => exact ⟨k + 1, by omega, by omega, by go_num⟩
      case measure => simp [intOf]; omega
    · go_wp2
      go_loop [9] (fun i => ∃ m : Nat, 1 ≤ m ∧ m ≤ f ∧ i = .int .i64 m) (fun i => f - (intOf i).toNat)
      case atStart => exact ⟨1, by omega, by omega, rfl⟩
      case round =>
        obtain ⟨m, hm1, hm, rfl⟩ := hrel
        by_cases hmf : m < f
        · have hms : m < s.size := by omega
          have hzz : ((s[m].toNat : Int) == 48) = true := by rw [beq_iff_eq]; have := f3 m hms hm1 hmf; omega
          clear HA f3 f4 bd
          go_wp2
          go_round
          case rel => exact ⟨m + 1, by omega, by omega, by go_num⟩
          case measure => simp [intOf]; omega
        · obtain rfl : m = f := by omega
          have CN := count_any lim w h0 hl
          by_cases hms : m < s.size
          · have hnz : ((s[m].toNat : Int) == 48) = false := by rw [beq_eq_false_iff_ne]; have := f4 hms; omega
            have hnz2 := f4 hms
            clear f3 f4
            go_wp2_with (go_at_call 15; refine CN.mono ?_; rintro e w' ⟨⟨nd, rfl, hnd, n1, n2⟩, rfl⟩)
            · have hcn : nd < s.size - m := by omega
              have HC : Hid (clampI (dv (s.data.toList.drop m)) lim = lim) := clamp_gt _ _ (dv_beyond s m nd lim hms hnz2 (allD_later s 1 m f1 HA.out) hcn hnd.out)
              go_ret2
              exact ⟨ret_ib (by rw [HC.out]) rfl, rfl⟩
            · have hcn : s.size - m ≤ nd := by omega
              clear hnz2
              go_loop [12, 13] (fun v i => ∃ q : Nat, m ≤ q ∧ q ≤ s.size ∧ i = .int .i64 q ∧ v = .int .i64 (dvr s m q)) (fun _ i => s.size - (intOf i).toNat)
              case atStart => exact ⟨m, Nat.le_refl _, by omega, rfl, by rw [dvr_start]⟩
              case round =>
                obtain ⟨q, hq1, hq, rfl, rfl⟩ := hrel
                have AM := allD_later s 1 m f1 HA.out
                have d1 := dvr_bd s m q hq (by omega) AM
                by_cases hqs : q < s.size
                · have d2 := dvr_bd s m (q + 1) (by omega) (by omega) AM
                  have HS : Hid (dvr s m (q + 1) = dvr s m q * 10 + ((s[q].toNat : Int) - 48)) := dvr_succ s m q hqs hq1
                  rw [HS.out] at d2
                  obtain ⟨g1, g2⟩ := (isD_int _).1 (allD_drop_at s 1 q hqs (by omega) HA.out)
                  obtain ⟨d3, d4⟩ := d1
                  obtain ⟨d5, d6⟩ := d2
                  clear AM HA bd
                  generalize dvr s m q = v at *
                  go_wp2
                  go_round
                  case rel => exact ⟨q + 1, by omega, by omega, by go_num, by rw [HS.out]⟩
                  case measure => simp [intOf]; omega
                · have HV : Hid (dvr s m q = dv (s.data.toList.drop m)) := by
                    show _ = _
                    have e : q = s.size := by omega
                    rw [e, dvr_end]
                  rw [HV.out] at d1 ⊢
                  obtain ⟨d3, d4⟩ := d1
                  have hqs' : s.size ≤ q := by omega
                  clear AM HA bd HV
                  by_cases hv : dv (s.data.toList.drop m) ≤ lim
                  · have HC : Hid (clampI (dv (s.data.toList.drop m)) lim = dv (s.data.toList.drop m)) := clamp_le _ _ hv
                    go_wp2
                    go_ret2
                    exact ⟨ret_ib (by rw [HC.out]) rfl, rfl⟩
                  · have HC : Hid (clampI (dv (s.data.toList.drop m)) lim = lim) := clamp_gt _ _ (by omega)
                    go_wp2
                    go_ret2
                    exact ⟨ret_ib (by rw [HC.out]) rfl, rfl⟩
          · clear f3 f4
            go_wp2_with (go_at_call 15; refine CN.mono ?_; rintro e w' ⟨⟨nd, rfl, hnd, n1, n2⟩, rfl⟩)
            go_loop [12, 13] (fun v i => ∃ q : Nat, m ≤ q ∧ q ≤ s.size ∧ i = .int .i64 q ∧ v = .int .i64 (dvr s m q)) (fun _ i => s.size - (intOf i).toNat)
            case atStart => exact ⟨m, Nat.le_refl _, by omega, rfl, by rw [dvr_start]⟩
            case round =>
              obtain ⟨q, hq1, hq, rfl, rfl⟩ := hrel
              have AM := allD_later s 1 m f1 HA.out
              have d1 := dvr_bd s m q hq (by omega) AM
              by_cases hqs : q < s.size
              · have d2 := dvr_bd s m (q + 1) (by omega) (by omega) AM
                have HS : Hid (dvr s m (q + 1) = dvr s m q * 10 + ((s[q].toNat : Int) - 48)) := dvr_succ s m q hqs hq1
                rw [HS.out] at d2
                obtain ⟨g1, g2⟩ := (isD_int _).1 (allD_drop_at s 1 q hqs (by omega) HA.out)
                obtain ⟨d3, d4⟩ := d1
                obtain ⟨d5, d6⟩ := d2
                clear AM HA bd
                generalize dvr s m q = v at *
                go_wp2
                go_round
                case rel => exact ⟨q + 1, by omega, by omega, by go_num, by rw [HS.out]⟩
                case measure => simp [intOf]; omega
              · have HV : Hid (dvr s m q = dv (s.data.toList.drop m)) := by
                  show _ = _
                  have e : q = s.size := by omega
                  rw [e, dvr_end]
                rw [HV.out] at d1 ⊢
                obtain ⟨d3, d4⟩ := d1
                have hqs' : s.size ≤ q := by omega
                clear AM HA bd HV
                by_cases hv : dv (s.data.toList.drop m) ≤ lim
                · have HC : Hid (clampI (dv (s.data.toList.drop m)) lim = dv (s.data.toList.drop m)) := clamp_le _ _ hv
                  go_wp2
                  go_ret2
                  exact ⟨ret_ib (by rw [HC.out]) rfl, rfl⟩
                · have HC : Hid (clampI (dv (s.data.toList.drop m)) lim = lim) := clamp_gt _ _ (by omega)
                  go_wp2
                  go_ret2
                  exact ⟨ret_ib (by rw [HC.out]) rfl, rfl⟩

set_option maxHeartbeats 1600000 in
theorem emodel_plain (s : ByteArray) (lim : Int) (w : World) (hp : 0 < s.size) (h1 : s.toList.isEmpty = false) (h2 : ((s[0].toNat : Int) == 43) = false) (h3 : ((s[0].toNat : Int) == 45) = false) (hs : s.size ≤ 1048576) (h0 : 0 ≤ lim) (hl : lim ≤ 922337203685477579) (hz : 0 < s.size) (ha : allD s.data.toList = true) :
    Calls Try.prog 8 #[.string s, .int .i64 lim] w fun e w' => e = .returned (.tuple #[.int .i64 (clampI (dv s.data.toList) lim), .bool true]) ∧ w' = w := by
  have hd1 : s.data.toList = s.data.toList.drop 0 := rfl
  rw [hd1] at ha ⊢
  obtain ⟨f, f1, f2, f3, f4, f5⟩ := firstOf s 0 (by omega)
  rw [← f5]
  have HA : Hid (allD (s.data.toList.drop 0) = true) := ha
  have hbe : ((0 : Int) == (s.size : Int)) = false := by rw [beq_eq_false_iff_ne]; omega
  have hp' : (0 : Int) < (s.size : Int) := by omega
  have hsz1 : 0 < s.size := by omega
  have bd := clamp_bd (dv (s.data.toList.drop f)) lim (dv_bd _ (allD_later s 0 f f1 HA.out)).1 h0
  clear ha f5 hz h1 hd1
  go_enter Try.func8, Try.ntmps8
  go_wp2
  go_loop [8] (fun i => ∃ k : Nat, 0 ≤ k ∧ k ≤ s.size ∧ i = .int .i64 k) (fun i => s.size - (intOf i).toNat)
  case atStart => exact ⟨0, by omega, by omega, rfl⟩
  case round =>
    obtain ⟨k, hk1, hk, rfl⟩ := hrel
    by_cases hlt : k < s.size
    · have hg : dgB (s[k].toNat : Int) = true := (dgB_isD s[k]).trans (allD_drop_at s 0 k hlt hk1 HA.out)
      clear HA f3 f4 bd
      go_wp2_with (go_at_call 10; refine (isDigit_any _ _).mono ?_; rintro e w' ⟨rfl, rfl⟩)
      go_round
      case rel => exact ⟨k + 1, by omega, by omega, by go_num⟩
      case measure => simp [intOf]; omega
    · go_wp2
      go_loop [9] (fun i => ∃ m : Nat, 0 ≤ m ∧ m ≤ f ∧ i = .int .i64 m) (fun i => f - (intOf i).toNat)
      case atStart => exact ⟨0, by omega, by omega, rfl⟩
      case round =>
        obtain ⟨m, hm1, hm, rfl⟩ := hrel
        by_cases hmf : m < f
        · have hms : m < s.size := by omega
          have hzz : ((s[m].toNat : Int) == 48) = true := by rw [beq_iff_eq]; have := f3 m hms hm1 hmf; omega
          clear HA f3 f4 bd
          go_wp2
          go_round
          case rel => exact ⟨m + 1, by omega, by omega, by go_num⟩
          case measure => simp [intOf]; omega
        · obtain rfl : m = f := by omega
          have CN := count_any lim w h0 hl
          by_cases hms : m < s.size
          · have hnz : ((s[m].toNat : Int) == 48) = false := by rw [beq_eq_false_iff_ne]; have := f4 hms; omega
            have hnz2 := f4 hms
            clear f3 f4
            go_wp2_with (go_at_call 15; refine CN.mono ?_; rintro e w' ⟨⟨nd, rfl, hnd, n1, n2⟩, rfl⟩)
            · have hcn : nd < s.size - m := by omega
              have HC : Hid (clampI (dv (s.data.toList.drop m)) lim = lim) := clamp_gt _ _ (dv_beyond s m nd lim hms hnz2 (allD_later s 0 m f1 HA.out) hcn hnd.out)
              go_ret2
              exact ⟨ret_ib (by rw [HC.out]) rfl, rfl⟩
            · have hcn : s.size - m ≤ nd := by omega
              clear hnz2
              go_loop [12, 13] (fun v i => ∃ q : Nat, m ≤ q ∧ q ≤ s.size ∧ i = .int .i64 q ∧ v = .int .i64 (dvr s m q)) (fun _ i => s.size - (intOf i).toNat)
              case atStart => exact ⟨m, Nat.le_refl _, by omega, rfl, by rw [dvr_start]⟩
              case round =>
                obtain ⟨q, hq1, hq, rfl, rfl⟩ := hrel
                have AM := allD_later s 0 m f1 HA.out
                have d1 := dvr_bd s m q hq (by omega) AM
                by_cases hqs : q < s.size
                · have d2 := dvr_bd s m (q + 1) (by omega) (by omega) AM
                  have HS : Hid (dvr s m (q + 1) = dvr s m q * 10 + ((s[q].toNat : Int) - 48)) := dvr_succ s m q hqs hq1
                  rw [HS.out] at d2
                  obtain ⟨g1, g2⟩ := (isD_int _).1 (allD_drop_at s 0 q hqs (by omega) HA.out)
                  obtain ⟨d3, d4⟩ := d1
                  obtain ⟨d5, d6⟩ := d2
                  clear AM HA bd
                  generalize dvr s m q = v at *
                  go_wp2
                  go_round
                  case rel => exact ⟨q + 1, by omega, by omega, by go_num, by rw [HS.out]⟩
                  case measure => simp [intOf]; omega
                · have HV : Hid (dvr s m q = dv (s.data.toList.drop m)) := by
                    show _ = _
                    have e : q = s.size := by omega
                    rw [e, dvr_end]
                  rw [HV.out] at d1 ⊢
                  obtain ⟨d3, d4⟩ := d1
                  have hqs' : s.size ≤ q := by omega
                  clear AM HA bd HV
                  by_cases hv : dv (s.data.toList.drop m) ≤ lim
                  · have HC : Hid (clampI (dv (s.data.toList.drop m)) lim = dv (s.data.toList.drop m)) := clamp_le _ _ hv
                    go_wp2
                    go_ret2
                    exact ⟨ret_ib (by rw [HC.out]) rfl, rfl⟩
                  · have HC : Hid (clampI (dv (s.data.toList.drop m)) lim = lim) := clamp_gt _ _ (by omega)
                    go_wp2
                    go_ret2
                    exact ⟨ret_ib (by rw [HC.out]) rfl, rfl⟩
          · clear f3 f4
            go_wp2_with (go_at_call 15; refine CN.mono ?_; rintro e w' ⟨⟨nd, rfl, hnd, n1, n2⟩, rfl⟩)
            go_loop [12, 13] (fun v i => ∃ q : Nat, m ≤ q ∧ q ≤ s.size ∧ i = .int .i64 q ∧ v = .int .i64 (dvr s m q)) (fun _ i => s.size - (intOf i).toNat)
            case atStart => exact ⟨m, Nat.le_refl _, by omega, rfl, by rw [dvr_start]⟩
            case round =>
              obtain ⟨q, hq1, hq, rfl, rfl⟩ := hrel
              have AM := allD_later s 0 m f1 HA.out
              have d1 := dvr_bd s m q hq (by omega) AM
              by_cases hqs : q < s.size
              · have d2 := dvr_bd s m (q + 1) (by omega) (by omega) AM
                have HS : Hid (dvr s m (q + 1) = dvr s m q * 10 + ((s[q].toNat : Int) - 48)) := dvr_succ s m q hqs hq1
                rw [HS.out] at d2
                obtain ⟨g1, g2⟩ := (isD_int _).1 (allD_drop_at s 0 q hqs (by omega) HA.out)
                obtain ⟨d3, d4⟩ := d1
                obtain ⟨d5, d6⟩ := d2
                clear AM HA bd
                generalize dvr s m q = v at *
                go_wp2
                go_round
                case rel => exact ⟨q + 1, by omega, by omega, by go_num, by rw [HS.out]⟩
                case measure => simp [intOf]; omega
              · have HV : Hid (dvr s m q = dv (s.data.toList.drop m)) := by
                  show _ = _
                  have e : q = s.size := by omega
                  rw [e, dvr_end]
                rw [HV.out] at d1 ⊢
                obtain ⟨d3, d4⟩ := d1
                have hqs' : s.size ≤ q := by omega
                clear AM HA bd HV
                by_cases hv : dv (s.data.toList.drop m) ≤ lim
                · have HC : Hid (clampI (dv (s.data.toList.drop m)) lim = dv (s.data.toList.drop m)) := clamp_le _ _ hv
                  go_wp2
                  go_ret2
                  exact ⟨ret_ib (by rw [HC.out]) rfl, rfl⟩
                · have HC : Hid (clampI (dv (s.data.toList.drop m)) lim = lim) := clamp_gt _ _ (by omega)
                  go_wp2
                  go_ret2
                  exact ⟨ret_ib (by rw [HC.out]) rfl, rfl⟩

end Go.Proofs.Qxb6601621a
