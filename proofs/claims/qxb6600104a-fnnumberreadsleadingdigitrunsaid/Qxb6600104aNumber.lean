/-
  The walks of (*scanner).number (19).
-/
import Derived.Test.Qxb6600104aDigits
namespace Go.Proofs.Qxb6600104a
open Go.RowKit
open Pl
set_option linter.unusedVariables false

/-- The number that the first k of the numbers z write. -/
def dz (z : Nat → Int) : Nat → Int
  | 0 => 0
  | k + 1 => dz z k * 10 + (z k - 48)

/-- The scanner's first field leads on behind the first d bytes; nothing else has turned. -/
def Cut (w w' : World) (p rb off len d : Nat) : Prop := ∃ o c, (d < len → o = off + d) ∧ w' = w.setCell ⟨p, 0, none⟩ (.slice (some ⟨rb, o, none⟩) (len - d) c)

set_option maxHeartbeats 800000 in
theorem number_ok (p rb off len cap d : Nat) (z : Nat → Int) (w : World) (hlen : len ≤ cap) (hcap : len ≤ maxLen)
    (h0 : w.cell? ⟨p, 0, none⟩ = some (.slice (some ⟨rb, off, none⟩) len cap)) (h1 : w.cell? ⟨p, 1, none⟩ = some (.bool true)) (f0 : w.frozen? ⟨p, 0, none⟩ = false)
    (hz : ∀ i, i < len → w.cell? ⟨rb, off + i, none⟩ = some (.int .u8 (z i)))
    (hd1 : 1 ≤ d) (hd18 : d ≤ 18) (hdl : d ≤ len) (hdig : ∀ i, i < d → 48 ≤ z i ∧ z i ≤ 57) (hnz : (z 0 == 48) = false)
    (hend : d = len ∨ (d < len ∧ (z d < 48 ∨ 57 < z d))) (hb : ∀ k, k ≤ d → 0 ≤ dz z k ∧ dz z k < 1000000000000000000) :
    Calls Try.prog 19 #[.pointer (some ⟨p, 0, none⟩)] w fun e w' => e = .returned (.int .i64 (dz z d)) ∧ Cut w w' p rb off len d := by
  unfold maxLen at hcap
  go_enter Try.func19, Try.ntmps19
  go_wp2
  go_loop [3] (fun i => ∃ k : Nat, k ≤ d ∧ i = .int .i64 k) (fun i => d - (intOf i).toNat)
  case atStart => exact ⟨0, Nat.zero_le _, rfl⟩
  case round =>
    obtain ⟨k, hk, rfl⟩ := hrel
    by_cases hlt : k < d
    · have hc := hz k (by omega)
      obtain ⟨g1, g2⟩ := hdig k hlt
      have hkl : k < len := by omega
      clear hz hdig hb hend
      generalize z k = c at *
      go_wp2
      go_round
      case rel => exact ⟨k + 1, by omega, by go_num⟩
      case measure => simp [intOf]; omega
    · obtain rfl : k = d := by omega
      have hc0 := hz 0 (by omega)
      simp only [Nat.add_zero] at hc0
      have hk0 : ((k : Int) == 0) = false := by simp; omega
      have hk18 : ¬ (18 : Int) < (k : Int) := by omega
      have hcd : k < len → w.cell? ⟨rb, off + k, none⟩ = some (.int .u8 (z k)) := hz k
      have hend' : (¬ k < len) ∨ (k < len ∧ z k < 48) ∨ (k < len ∧ 57 < z k) := by omega
      clear hend
      rcases hend' with hx | ⟨hx1, hx⟩ | ⟨hx1, hx⟩
      all_goals
        try have hcd' := hcd hx1
        clear hcd
        go_wp2
        go_loop [4, 72] (fun n i => ∃ j : Nat, j ≤ k ∧ i = .int .i64 j ∧ n = .int .i64 (dz z j)) (fun _ i => k - (intOf i).toNat)
        case atStart => exact ⟨0, Nat.zero_le _, rfl, rfl⟩
        case round =>
          obtain ⟨j, hj, rfl, rfl⟩ := hrel
          by_cases hjk : j < k
          · have hc := hz j (by omega)
            obtain ⟨g1, g2⟩ := hdig j hjk
            have b1 := (hb j (by omega)).1
            have b2 := (hb (j + 1) (by omega)).2
            have HS : Hid (dz z (j + 1) = dz z j * 10 + (z j - 48)) := rfl
            have b3 : dz z j * 10 + (z j - 48) < 1000000000000000000 := b2
            clear b2 hz hdig hb
            generalize dz z j = n at *
            generalize z j = c at *
            go_wp2
            go_round
            case rel => exact ⟨j + 1, by omega, by go_num, by rw [HS.out]⟩
            case measure => simp [intOf]; omega
          · obtain rfl : j = k := by omega
            clear hz hdig hb
            go_wp2
            all_goals
              go_ret
              exact ⟨rfl, _, _, fun h => by first | rfl | omega, rfl⟩
end Go.Proofs.Qxb6600104a
