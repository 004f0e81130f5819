import Derived.Test.Qxb6602369aQ
namespace Go.Proofs.Qxb6602369a
open Go.RowKit

/-- The first true place, or -1. -/
def RetIx (e : Ending) (n : Nat) (cy : Nat → Bool) : Prop :=
  (∃ k, k < n ∧ e = .returned (.int .i64 (k : Nat)) ∧ cy k = true ∧ ∀ j, j < k → cy j = false) ∨ (e = .returned (.int .i64 (-1)) ∧ ∀ j, j < n → cy j = false)

set_option maxRecDepth 100000 in
set_option maxHeartbeats 400000 in
theorem index_any (n b : Nat) (cy : Nat → Bool) (w : World) (hrow : w.rowIs b 4 n (fun i => .bool (cy i))) (hn : n ≤ 1000000) :
    Calls Try.prog 35 #[.slice (some ⟨b, 0, none⟩) n n, .bool true] w fun e w' => RetIx e n cy ∧ w' = w := by
  go_enter Try.func35, Try.ntmps35
  go_wp2
  go_loop [8] (fun v => ∃ k : Nat, k ≤ n ∧ v = .int .i64 (k : Nat) ∧ Hid (∀ j, j < k → cy j = false)) (fun v => n - (intOf v).toNat)
  case atStart => exact ⟨0, Nat.zero_le _, rfl, fun _ h => absurd h (by omega)⟩
  case round =>
    obtain ⟨k, hk, rfl, HA⟩ := hrel
    by_cases hlt : k < n
    · have hc := hrow.cell hlt
      cases hck : cy k with
      | true =>
        have HC : Hid (cy k = true) := hck
        rw [hck] at hc
        clear hck
        go_wp2
        go_ret
        exact ⟨.inl ⟨k, hlt, rfl, HC.out, HA.out⟩, rfl⟩
      | false =>
        have HA2 : Hid (∀ j, j < k + 1 → cy j = false) := fun j hj => by
          by_cases e : j = k
          · rw [e]; exact hck
          · exact HA.out j (by omega)
        rw [hck] at hc
        clear hck
        go_wp2
        go_round
        case rel => exact ⟨k + 1, by omega, by go_num, HA2⟩
        case measure => simp [intOf]; omega
    · obtain rfl : k = n := by omega
      go_wp2
      go_ret
      exact ⟨.inr ⟨rfl, HA.out⟩, rfl⟩
end Go.Proofs.Qxb6602369a
