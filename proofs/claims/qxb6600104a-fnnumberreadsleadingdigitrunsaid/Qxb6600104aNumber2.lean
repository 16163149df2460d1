/-
  The walks of (*scanner).number (19): the ways on which it reads no number.
-/
import Derived.Test.Qxb6600104aNumber
namespace Go.Proofs.Qxb6600104a
open Go.RowKit
open Pl
set_option linter.unusedVariables false

set_option maxHeartbeats 800000 in
theorem number_no (p rb off len cap d : Nat) (ok : Bool) (z : Nat → Int) (w : World) (hlen : len ≤ cap) (hcap : len ≤ maxLen)
    (h0 : w.cell? ⟨p, 0, none⟩ = some (.slice (some ⟨rb, off, none⟩) len cap)) (h1 : w.cell? ⟨p, 1, none⟩ = some (.bool ok)) (f1 : w.frozen? ⟨p, 1, none⟩ = false)
    (hz : ∀ i, i < len → w.cell? ⟨rb, off + i, none⟩ = some (.int .u8 (z i)))
    (hdl : d ≤ len) (hdig : ∀ i, i < d → 48 ≤ z i ∧ z i ≤ 57)
    (hend : d = 19 ∨ (d ≤ 18 ∧ ¬ d < len) ∨ (d ≤ 18 ∧ d < len ∧ z d < 48) ∨ (d ≤ 18 ∧ d < len ∧ 57 < z d))
    (hno : ok = false ∨ d = 0 ∨ 18 < d ∨ (1 ≤ d ∧ d ≤ 18 ∧ z 0 = 48)) :
    Calls Try.prog 19 #[.pointer (some ⟨p, 0, none⟩)] w fun e w' => e = .returned (.int .i64 0) ∧ w' = w.setCell ⟨p, 1, none⟩ (.bool false) := by
  unfold maxLen at hcap
  have HE : Hid (d = 19 ∨ (d ≤ 18 ∧ ¬ d < len) ∨ (d ≤ 18 ∧ d < len ∧ z d < 48) ∨ (d ≤ 18 ∧ d < len ∧ 57 < z d)) := hend
  have HN : Hid (ok = false ∨ d = 0 ∨ 18 < d ∨ (1 ≤ d ∧ d ≤ 18 ∧ z 0 = 48)) := hno
  have hd19 : d ≤ 19 := by omega
  clear hend hno
  go_enter Try.func19, Try.ntmps19
  go_wp2
  go_loop [3] (fun i => ∃ k : Nat, k ≤ d ∧ i = .int .i64 k) (fun i => d - (intOf i).toNat)
  case atStart => exact ⟨0, Nat.zero_le _, rfl⟩
  case round =>
    obtain ⟨k, hk, rfl⟩ := hrel
    by_cases hlt : k < d
    · have hc := hz k (by omega)
      obtain ⟨g1, g2⟩ := hdig k hlt
      have hkl : k < len := by omega
      clear hz hdig HE HN
      generalize z k = c at *
      go_wp2
      go_round
      case rel => exact ⟨k + 1, by omega, by go_num⟩
      case measure => simp [intOf]; omega
    · obtain rfl : k = d := by omega
      have hcd : k < len → w.cell? ⟨rb, off + k, none⟩ = some (.int .u8 (z k)) := hz k
      have hc0 : 0 < len → w.cell? ⟨rb, off, none⟩ = some (.int .u8 (z 0)) := fun h => by have := hz 0 h; rwa [Nat.add_zero] at this
      have HE' := HE.out
      have HN' : ok = false ∨ (ok = true ∧ k = 0) ∨ (ok = true ∧ 18 < k) ∨ (ok = true ∧ 1 ≤ k ∧ k ≤ 18 ∧ z 0 = 48) := by
        rcases HN.out with h | h
        · exact .inl h
        · cases ok
          · exact .inl rfl
          · right; simpa using h
      clear HE HN hz hdig
      by_cases hq : k = 0
      · subst hq
        clear HN'
        rcases HE' with hx | ⟨hx1, hx⟩ | ⟨hx1, hx2, hx⟩ | ⟨hx1, hx2, hx⟩
        · omega
        all_goals
          try have hcd' := hc0 hx2
          clear hcd hc0
          cases ok
          all_goals
            go_wp2
            go_ret
            exact ⟨rfl, rfl⟩
      · have hc0' := hc0 (by omega)
        have hk0 : ((k : Int) == 0) = false := by simp; omega
        rcases HE' with hx | ⟨hx1, hx⟩ | ⟨hx1, hx2, hx⟩ | ⟨hx1, hx2, hx⟩ <;> rcases HN' with rfl | ⟨rfl, hy⟩ | ⟨rfl, hy⟩ | ⟨rfl, hy1, hy2, hy⟩
        all_goals try omega
        all_goals
          try have hcd' := hcd hx2
          clear hcd hc0
          try (have hy' : (z 0 == 48) = true := by simp [hy])
          try clear hy
          try (subst hx; clear hk0)
          go_wp2
          go_ret
          exact ⟨rfl, rfl⟩

set_option maxHeartbeats 800000 in
/-- Nothing is left to read. -/
theorem number_none (p cap : Nat) (ra : Option Addr) (ok : Bool) (w : World)
    (h0 : w.cell? ⟨p, 0, none⟩ = some (.slice ra 0 cap)) (h1 : w.cell? ⟨p, 1, none⟩ = some (.bool ok)) (f1 : w.frozen? ⟨p, 1, none⟩ = false) :
    Calls Try.prog 19 #[.pointer (some ⟨p, 0, none⟩)] w fun e w' => e = .returned (.int .i64 0) ∧ w' = w.setCell ⟨p, 1, none⟩ (.bool false) := by
  go_enter Try.func19, Try.ntmps19
  go_wp2
  go_loop [3] (fun i => i = .int .i64 0) (fun i => 0)
  case atStart => exact rfl
  case round =>
    obtain rfl := hrel
    cases ok
    all_goals
      go_wp2
      go_ret
      exact ⟨rfl, rfl⟩
end Go.Proofs.Qxb6600104a
