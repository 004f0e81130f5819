import Derived.Test.Qxb6602497aRows
import Derived.Test.Qxb6602497aM
import Derived.WalkKit
import Derived.ProofKit
import Derived.Below
import Derived.Deep.QuietTactic
import Derived.Deep.OwnRows
import Derived.BigQuiet
import Derived.WalkSpells
import Derived.WalkLawsBesides
import Derived.Laws.CopyOwn
namespace Go.Proofs.Qxb6602497a
open Go.RowKit

/-- The call returned a bool, and it is true just where p holds. -/
def RetB (e : Ending) (p : Prop) : Prop := ∃ v : Bool, e = .returned (.bool v) ∧ (v = true ↔ p)
theorem RetB.no {p : Prop} (h : ¬ p) : RetB (.returned (.bool false)) p := ⟨false, rfl, by simp [h]⟩
theorem RetB.yes {p : Prop} (h : p) : RetB (.returned (.bool true)) p := ⟨true, rfl, by simp [h]⟩
theorem ret_int {k : IntKind} {a b : Int} (h : a = b) : Ending.returned (.int k a) = .returned (.int k b) := by rw [h]

theorem lo_eq (k : Nat) (h : k < ({ data := #[48, 49, 50, 51, 52, 53, 54, 55, 56, 57, 97, 98, 99, 100, 101, 102] } : ByteArray).size) : ((({ data := #[48, 49, 50, 51, 52, 53, 54, 55, 56, 57, 97, 98, 99, 100, 101, 102] } : ByteArray)[k]).toNat : Int) = lo k := by
  have h' : k < 16 := h
  rcases (by omega : k = 0 ∨ k = 1 ∨ k = 2 ∨ k = 3 ∨ k = 4 ∨ k = 5 ∨ k = 6 ∨ k = 7 ∨ k = 8 ∨ k = 9 ∨ k = 10 ∨ k = 11 ∨ k = 12 ∨ k = 13 ∨ k = 14 ∨ k = 15) with rfl | rfl | rfl | rfl | rfl | rfl | rfl | rfl | rfl | rfl | rfl | rfl | rfl | rfl | rfl | rfl <;> rfl
theorem up_eq (k : Nat) (h : k < ({ data := #[48, 49, 50, 51, 52, 53, 54, 55, 56, 57, 65, 66, 67, 68, 69, 70] } : ByteArray).size) : ((({ data := #[48, 49, 50, 51, 52, 53, 54, 55, 56, 57, 65, 66, 67, 68, 69, 70] } : ByteArray)[k]).toNat : Int) = up k := by
  have h' : k < 16 := h
  rcases (by omega : k = 0 ∨ k = 1 ∨ k = 2 ∨ k = 3 ∨ k = 4 ∨ k = 5 ∨ k = 6 ∨ k = 7 ∨ k = 8 ∨ k = 9 ∨ k = 10 ∨ k = 11 ∨ k = 12 ∨ k = 13 ∨ k = 14 ∨ k = 15) with rfl | rfl | rfl | rfl | rfl | rfl | rfl | rfl | rfl | rfl | rfl | rfl | rfl | rfl | rfl | rfl <;> rfl

set_option maxHeartbeats 400000 in
theorem hex_any (c : Int) (w : World) :
    Calls Try.prog 7 #[.int .u8 c] w fun e w' => e = .returned (.int .i64 (hexZ c)) ∧ w' = w := by
  go_enter Try.func7, Try.ntmps7
  go_wp2
  go_loop [3] (fun v => ∃ k : Nat, k ≤ 16 ∧ v = .int .i64 k ∧ Hid (∀ j, j < k → c ≠ lo j ∧ c ≠ up j)) (fun v => 16 - (intOf v).toNat)
  case atStart => exact ⟨0, Nat.zero_le _, rfl, fun _ h => absurd h (by omega)⟩
  case round =>
    obtain ⟨k, hk, rfl, HA⟩ := hrel
    by_cases hlt : k < 16
    · have hlo := lo_eq k hlt
      have hup := up_eq k hlt
      by_cases e1 : c = lo k
      · have hb : (c == lo k) = true := beq_iff_eq.2 e1
        have HR : Hid ((k : Int) = hexZ c) := (hexZ_at hlt (.inl e1)).symm
        clear e1
        go_wp2
        go_ret
        exact ⟨ret_int HR.out, rfl⟩
      · have hb : (c == lo k) = false := beq_eq_false_iff_ne.2 e1
        by_cases e2 : c = up k
        · have hb2 : (c == up k) = true := beq_iff_eq.2 e2
          have HR : Hid ((k : Int) = hexZ c) := (hexZ_at hlt (.inr e2)).symm
          clear e1 e2
          go_wp2
          go_ret
          exact ⟨ret_int HR.out, rfl⟩
        · have hb2 : (c == up k) = false := beq_eq_false_iff_ne.2 e2
          have HA' : Hid (∀ j, j < k + 1 → c ≠ lo j ∧ c ≠ up j) := fun j hj => by
            by_cases e : j = k
            · rw [e]; exact ⟨e1, e2⟩
            · exact HA.out j (by omega)
          clear e1 e2
          go_wp2
          go_round
          case rel => exact ⟨k + 1, by omega, by go_num, HA'⟩
          case measure => simp [intOf]; omega
    · obtain rfl : k = 16 := by omega
      have HR : Hid ((-1 : Int) = hexZ c) := (hexZ_none HA.out).symm
      go_wp2
      go_ret
      exact ⟨ret_int HR.out, rfl⟩

set_option maxHeartbeats 400000 in
/-- No room for an escape. -/
theorem esc_short (a : Option Addr) (n c : Nat) (i : Int) (w : World) (h0 : 0 ≤ i) (h1 : i ≤ 9223372036854775802) (hs : (n : Int) ≤ i + 5) :
    Calls Try.prog 9 #[.slice a n c, .int .i64 i] w fun e w' => e = .returned (.tuple #[.int .i32 0, .bool false]) ∧ w' = w := by
  go_enter Try.func9, Try.ntmps9
  go_wp2
  go_ret2
  exact ⟨rfl, rfl⟩

theorem uv_le {D : Nat → Int} {k : Nat} : ∀ {m : Nat}, (∀ j, j < m → Hex (D (k + j))) → m ≤ 3 → 0 ≤ uv D k m ∧ uv D k m ≤ 4095
  | 0, _, _ => by simp [uv]
  | 1, h, _ => by have a := hexZ_yes (h 0 (by omega)); simp only [uv]; omega
  | 2, h, _ => by have a := hexZ_yes (h 0 (by omega)); have b := hexZ_yes (h 1 (by omega)); simp only [uv]; omega
  | 3, h, _ => by have a := hexZ_yes (h 0 (by omega)); have b := hexZ_yes (h 1 (by omega)); have c := hexZ_yes (h 2 (by omega)); simp only [uv]; omega
  | _ + 4, _, h => by omega

set_option maxHeartbeats 1000000 in
theorem esc_any (b n k : Nat) (D : Nat → Int) (w : World) (hn : n ≤ 1048576) (hk : k + 6 ≤ n) (hD : ∀ i, i < n → w.cell? ⟨b, i, none⟩ = some (.int .u8 (D i))) (hbd : ∀ i, 0 ≤ D i ∧ D i ≤ 255) :
    Calls Try.prog 9 #[.slice (some ⟨b, 0, none⟩) n n, .int .i64 k] w fun e w' => ((Esc D k ∧ e = .returned (.tuple #[.int .i32 (uv D (k + 2) 4), .bool true])) ∨ (¬ Esc D k ∧ e = .returned (.tuple #[.int .i32 0, .bool false]))) ∧ w' = w := by
  have hdd : decide ((n : Int) ≤ (k : Int) + 5) = false := decide_eq_false (by omega)
  have c0 := hD k (by omega)
  have c1 := hD (k + 1) (by omega)
  by_cases e0 : D k = 92
  rotate_left
  · have hb0 : (D k != 92) = true := by rw [bne_iff_ne]; exact e0
    have HX : Hid (¬ Esc D k) := fun h => e0 h.1
    clear e0 hD hbd
    go_enter Try.func9, Try.ntmps9
    go_wp2
    go_ret2
    exact ⟨.inr ⟨HX.out, rfl⟩, rfl⟩
  have hb0 : (D k != 92) = false := by simp [e0]
  by_cases e1 : D (k + 1) = 117
  rotate_left
  · have hb1 : (D (k + 1) != 117) = true := by rw [bne_iff_ne]; exact e1
    have HX : Hid (¬ Esc D k) := fun h => e1 h.2.1
    clear e0 e1 hD hbd
    go_enter Try.func9, Try.ntmps9
    go_wp2
    go_ret2
    exact ⟨.inr ⟨HX.out, rfl⟩, rfl⟩
  have hb1 : (D (k + 1) != 117) = false := by simp [e1]
  have HE : Hid (D k = 92 ∧ D (k + 1) = 117) := ⟨e0, e1⟩
  clear e0 e1
  go_enter Try.func9, Try.ntmps9
  go_wp2
  go_loop [6, 36] (fun u v => ∃ m : Nat, m ≤ 4 ∧ v = .int .i64 m ∧ u = .int .i32 (uv D (k + 2) m) ∧ Hid (∀ j, j < m → Hex (D (k + 2 + j)))) (fun _ v => 4 - (intOf v).toNat)
  case atStart => exact ⟨0, Nat.zero_le _, rfl, rfl, fun _ h => absurd h (by omega)⟩
  case round =>
    obtain ⟨m, hm, rfl, rfl, HA⟩ := hrel
    by_cases hlt : m < 4
    · have hub : 0 ≤ uv D (k + 2) m ∧ uv D (k + 2) m ≤ 4095 := uv_le HA.out (by omega)
      obtain ⟨u0, u1⟩ := hub
      have cm := hD (k + 2 + m) (by omega)
      obtain ⟨d0, d1⟩ := hbd (k + 2 + m)
      clear hD hbd
      by_cases hx : Hex (D (k + 2 + m))
      · have HN : Hid (uv D (k + 2) (m + 1) = uv D (k + 2) m * 16 + hexZ (D (k + 2 + m))) := rfl
        have hz := hexZ_yes hx
        have hzz := hexZ_or (D (k + 2 + m))
        have HA' : Hid (∀ j, j < m + 1 → Hex (D (k + 2 + j))) := fun j hj => by
          by_cases e : j = m
          · rw [e]; exact hx
          · exact HA.out j (by omega)
        have HO : Hid (∀ x, x = hexZ (D (k + 2 + m)) → bits BinOp.or IntKind.i32 (uv D (k + 2) m * 16) x = uv D (k + 2) m * 16 + hexZ (D (k + 2 + m))) := fun x hx => by
          rw [hx]; exact bits_join .i32 31 (by decide) wraps_i32 4 _ _ (by omega) (by omega) (by omega) (by omega) (by omega) (by omega)
        rcases hx with ⟨h1, h2⟩ | ⟨h1, h2⟩ | ⟨h1, h2⟩
        · have HZ : Hid (D (k + 2 + m) - 48 = hexZ (D (k + 2 + m))) := by show _ = _; omega
          clear hz hzz
          go_wp2
          go_round
          case rel => exact ⟨m + 1, by omega, by go_num, by rw [HN.out, HO.out _ HZ.out], HA'⟩
          case measure => simp [intOf]; omega
        · have HZ : Hid (D (k + 2 + m) - 97 + 10 = hexZ (D (k + 2 + m))) := by show _ = _; omega
          have hd1 : decide (D (k + 2 + m) ≤ 57) = false := decide_eq_false (by omega)
          clear hz hzz
          go_wp2
          go_round
          case rel => exact ⟨_, _, _, _, _, ⟨m + 1, by omega, by go_num, by rw [HN.out, HO.out _ HZ.out], HA'⟩, rfl, rfl, rfl, rfl, rfl⟩
          case measure => simp [intOf]; omega
        · have HZ : Hid (D (k + 2 + m) - 65 + 10 = hexZ (D (k + 2 + m))) := by show _ = _; omega
          have hd1 : decide (D (k + 2 + m) ≤ 57) = false := decide_eq_false (by omega)
          clear hz hzz
          go_wp2
          go_round
          case rel => exact ⟨_, _, _, _, _, ⟨m + 1, by omega, by go_num, by rw [HN.out, HO.out _ HZ.out], HA'⟩, rfl, rfl, rfl, rfl, rfl⟩
          case measure => simp [intOf]; omega
      · have HX : Hid (¬ Esc D k) := fun h => hx (h.2.2 m hlt)
        have hx' : D (k + 2 + m) < 48 ∨ (57 < D (k + 2 + m) ∧ D (k + 2 + m) < 65) ∨ (70 < D (k + 2 + m) ∧ D (k + 2 + m) < 97) ∨ 102 < D (k + 2 + m) := by unfold Hex at hx; omega
        clear hx
        rcases hx' with h1 | ⟨h1, h2⟩ | ⟨h1, h2⟩ | h1
        · go_wp2
          go_ret2
          exact ⟨.inr ⟨HX.out, rfl⟩, rfl⟩
        · have hd1 : decide (D (k + 2 + m) ≤ 57) = false := decide_eq_false (by omega)
          go_wp2
          go_ret2
          exact ⟨.inr ⟨HX.out, rfl⟩, rfl⟩
        · have hd1 : decide (D (k + 2 + m) ≤ 57) = false := decide_eq_false (by omega)
          have hd2 : decide (D (k + 2 + m) ≤ 70) = false := decide_eq_false (by omega)
          go_wp2
          go_ret2
          exact ⟨.inr ⟨HX.out, rfl⟩, rfl⟩
        · have hd1 : decide (D (k + 2 + m) ≤ 57) = false := decide_eq_false (by omega)
          have hd2 : decide (D (k + 2 + m) ≤ 70) = false := decide_eq_false (by omega)
          have hd3 : decide (D (k + 2 + m) ≤ 102) = false := decide_eq_false (by omega)
          go_wp2
          go_ret2
          exact ⟨.inr ⟨HX.out, rfl⟩, rfl⟩
    · obtain rfl : m = 4 := by omega
      clear hD hbd
      go_wp2
      go_ret2
      exact ⟨.inl ⟨⟨HE.out.1, HE.out.2, HA.out⟩, rfl⟩, rfl⟩
set_option maxHeartbeats 400000 in
theorem zz5_any (a : Option Addr) (n c : Nat) (i : Int) (w : World) (h0 : n ≤ maxLen) :
    Calls Try.prog 5 #[.slice a n c, .int .i64 i] w fun e w' => RetB e (n ≤ 1048576) ∧ w' = w := by
  unfold maxLen at h0
  go_enter Try.func5, Try.ntmps5
  go_wp2
  all_goals go_ret
  · exact ⟨RetB.no (by omega), rfl⟩
  · exact ⟨RetB.yes (by omega), rfl⟩

set_option maxHeartbeats 400000 in
theorem zzesc_short (a : Option Addr) (n c : Nat) (i : Int) (w : World) (h0 : 0 ≤ i) (h1 : i ≤ 9223372036854775802) (hs : (n : Int) ≤ i + 5) :
    Calls Try.prog 6 #[.slice a n c, .int .i64 i] w fun e w' => e = .returned (.tuple #[.int .i32 0, .bool false]) ∧ w' = w := by
  have hF := fun w => esc_short a n c i w h0 h1 hs
  go_enter Try.func6, Try.ntmps6
  go_wp2_with fail
  refine (hF _).mono ?_
  rintro e w' ⟨rfl, rfl⟩
  go_wp2
  go_ret2
  exact ⟨rfl, rfl⟩

set_option maxHeartbeats 400000 in
theorem zzesc_any (b n k : Nat) (D : Nat → Int) (w : World) (hn : n ≤ 1048576) (hk : k + 6 ≤ n) (hD : ∀ i, i < n → w.cell? ⟨b, i, none⟩ = some (.int .u8 (D i))) (hbd : ∀ i, 0 ≤ D i ∧ D i ≤ 255) :
    Calls Try.prog 6 #[.slice (some ⟨b, 0, none⟩) n n, .int .i64 k] w fun e w' => ((Esc D k ∧ e = .returned (.tuple #[.int .i32 (uv D (k + 2) 4), .bool true])) ∨ (¬ Esc D k ∧ e = .returned (.tuple #[.int .i32 0, .bool false]))) ∧ w' = w := by
  have hF := esc_any b n k D w hn hk hD hbd
  clear hD hbd
  go_enter Try.func6, Try.ntmps6
  go_wp2_with fail
  refine hF.mono ?_
  rintro e w' ⟨⟨hE, rfl⟩ | ⟨hE, rfl⟩, rfl⟩
  · have HE : Hid (Esc D k) := hE
    clear hE hF
    go_wp2
    go_ret2
    exact ⟨.inl ⟨HE.out, rfl⟩, rfl⟩
  · have HE : Hid (¬ Esc D k) := hE
    clear hE hF
    go_wp2
    go_ret2
    exact ⟨.inr ⟨HE.out, rfl⟩, rfl⟩

end Go.Proofs.Qxb6602497a
