import Derived.Test.Qxb6602424aRows
import Derived.Test.Qxb6602424aM
import Derived.WalkKit
import Derived.ProofKit
import Derived.Below
import Derived.Deep.QuietTactic
import Derived.Deep.OwnRows
import Derived.BigQuiet
import Derived.WalkSpells
import Derived.WalkLawsBesides
namespace Go.Proofs.Qxb6602424a
open Go.RowKit

/-- The call returned a bool, and it is true just where p holds. -/
def RetB (e : Ending) (p : Prop) : Prop := ∃ v : Bool, e = .returned (.bool v) ∧ (v = true ↔ p)
theorem RetB.no {p : Prop} (h : ¬ p) : RetB (.returned (.bool false)) p := ⟨false, rfl, by simp [h]⟩
theorem RetB.yes {p : Prop} (h : p) : RetB (.returned (.bool true)) p := ⟨true, rfl, by simp [h]⟩

/-- The byte at k. -/
def ch (s : ByteArray) (k : Nat) : Int := ((s.data.toList.getD k 0).toNat : Int)
theorem ch_eq (s : ByteArray) (k : Nat) (h : k < s.size) : ((s[k]).toNat : Int) = ch s k := by
  have h' : k < s.data.size := h
  unfold ch
  rw [List.getD_eq_getElem?_getD, Array.getElem?_toList, Array.getElem?_eq_getElem h']
  rfl
theorem ch_bd (s : ByteArray) (k : Nat) : 0 ≤ ch s k ∧ ch s k ≤ 255 := by
  unfold ch
  have := (s.data.toList.getD k 0).toNat_lt
  omega

set_option maxHeartbeats 400000 in
theorem zz10_any (s : ByteArray) (w : World) (hs : s.size ≤ maxLen) :
    Calls Try.prog 10 #[.string s] w fun e w' => RetB e (s.size ≤ 1048576) ∧ w' = w := by
  unfold maxLen at hs
  go_enter Try.func10, Try.ntmps10
  go_wp2
  all_goals go_ret
  · exact ⟨RetB.no (by omega), rfl⟩
  · exact ⟨RetB.yes (by omega), rfl⟩

set_option maxHeartbeats 400000 in
theorem isuuid_any (s : ByteArray) (w : World) :
    Calls Try.prog 23 #[.string s] w fun e w' => RetB e (IsU s.size (ch s)) ∧ w' = w := by
  by_cases h36 : s.size = 36
  · have hb : ((s.size : Int) != 36) = false := by simp [h36]
    go_enter Try.func23, Try.ntmps23
    go_wp2
    go_loop [3] (fun i => ∃ k : Nat, k ≤ 36 ∧ i = .int .i64 k ∧ Hid (∀ i, i < k → (Dsh i → ch s i = 45) ∧ (¬ Dsh i → Hex (ch s i)))) (fun i => 36 - (intOf i).toNat)
    case atStart => exact ⟨0, Nat.zero_le _, rfl, fun _ h => absurd h (by omega)⟩
    case round =>
      obtain ⟨k, hk, rfl, HA⟩ := hrel
      by_cases hlt : k < 36
      · have hlt' : k < s.size := by omega
        have hch := ch_eq s k hlt'
        obtain ⟨hb0, hb1⟩ := ch_bd s k
        have HN : Hid (∀ i, i < k + 1 → i ≠ k → (Dsh i → ch s i = 45) ∧ (¬ Dsh i → Hex (ch s i))) := fun i h1 h2 => HA.out i (by omega)
        by_cases hd : Dsh k
        · by_cases h45 : ch s k = 45
          · have hb45 : (ch s k != 45) = false := by simp [h45]
            have HY : Hid (∀ i, i < k + 1 → (Dsh i → ch s i = 45) ∧ (¬ Dsh i → Hex (ch s i))) := fun i h1 => by
              by_cases e : i = k
              · rw [e]; exact ⟨fun _ => h45, fun h => absurd hd h⟩
              · exact HN.out i h1 e
            clear h45 HA HN
            rcases hd with rfl | rfl | rfl | rfl
            all_goals
              go_wp2
              go_round
              case rel => refine ⟨_, ?_, rfl, HY⟩; decide
              case measure => simp [intOf]
          · have hb45 : (ch s k != 45) = true := by rw [bne_iff_ne]; exact h45
            have HX : Hid (¬ IsU 36 (ch s)) := fun h => h45 ((h.2 k hlt).1 hd)
            clear h45 HA HN
            rcases hd with rfl | rfl | rfl | rfl
            all_goals
              go_wp2
              go_ret
              exact ⟨RetB.no HX.out, rfl⟩
        · have hk8 : ((k : Int) == 8) = false := beq_eq_false_iff_ne.2 (by unfold Dsh at hd; omega)
          have hk13 : ((k : Int) == 13) = false := beq_eq_false_iff_ne.2 (by unfold Dsh at hd; omega)
          have hk18 : ((k : Int) == 18) = false := beq_eq_false_iff_ne.2 (by unfold Dsh at hd; omega)
          have hk23 : ((k : Int) == 23) = false := beq_eq_false_iff_ne.2 (by unfold Dsh at hd; omega)
          by_cases hx : Hex (ch s k)
          · have HY : Hid (∀ i, i < k + 1 → (Dsh i → ch s i = 45) ∧ (¬ Dsh i → Hex (ch s i))) := fun i h1 => by
              by_cases e : i = k
              · rw [e]; exact ⟨fun h => absurd h hd, fun _ => hx⟩
              · exact HN.out i h1 e
            clear HA HN hd
            rcases hx with ⟨h1, h2⟩ | ⟨h1, h2⟩ | ⟨h1, h2⟩
            all_goals
              go_wp2
              go_round
              case rel => exact ⟨k + 1, by omega, by go_num, HY⟩
              case measure => simp [intOf]; omega
          · have HX : Hid (¬ IsU 36 (ch s)) := fun h => hx ((h.2 k hlt).2 hd)
            have hx' : ch s k < 48 ∨ (57 < ch s k ∧ ch s k < 65) ∨ (70 < ch s k ∧ ch s k < 97) ∨ 102 < ch s k := by unfold Hex at hx; omega
            clear HA HN hd hx
            rcases hx' with h1 | ⟨h1, h2⟩ | ⟨h1, h2⟩ | h1
            · go_wp2
              go_ret
              exact ⟨RetB.no HX.out, rfl⟩
            · have hd1 : decide (ch s k ≤ 57) = false := decide_eq_false (by omega)
              go_wp2
              go_ret
              exact ⟨RetB.no HX.out, rfl⟩
            · have hd1 : decide (ch s k ≤ 57) = false := decide_eq_false (by omega)
              have hd2 : decide (ch s k ≤ 70) = false := decide_eq_false (by omega)
              go_wp2
              go_ret
              exact ⟨RetB.no HX.out, rfl⟩
            · have hd1 : decide (ch s k ≤ 57) = false := decide_eq_false (by omega)
              have hd2 : decide (ch s k ≤ 70) = false := decide_eq_false (by omega)
              have hd3 : decide (ch s k ≤ 102) = false := decide_eq_false (by omega)
              go_wp2
              go_ret
              exact ⟨RetB.no HX.out, rfl⟩
      · obtain rfl : k = 36 := by omega
        go_wp2
        go_ret
        exact ⟨RetB.yes ⟨rfl, HA.out⟩, rfl⟩
  · have hb : ((s.size : Int) != 36) = true := by rw [bne_iff_ne]; omega
    go_enter Try.func23, Try.ntmps23
    go_wp2
    go_ret
    exact ⟨RetB.no (fun h => h36 h.1), rfl⟩
set_option maxHeartbeats 400000 in
theorem zzisuuid_any (s : ByteArray) (w : World) :
    Calls Try.prog 11 #[.string s] w fun e w' => RetB e (IsU s.size (ch s)) ∧ w' = w := by
  go_enter Try.func11, Try.ntmps11
  go_wp2_with fail
  refine (isuuid_any s w).mono ?_
  rintro e w' ⟨⟨v, rfl, hv⟩, rfl⟩
  go_wp2
  go_ret
  exact ⟨⟨v, rfl, hv⟩, rfl⟩

/-- The value of a digit. -/
def hexV (c : Int) : Int := if c ≤ 57 then c - 48 else if 97 ≤ c then c - 87 else c - 55

theorem ret_hex {a b : Int} (h : a = b) : Ending.returned (.tuple #[.int .u8 a, .bool true]) = .returned (.tuple #[.int .u8 b, .bool true]) := by rw [h]

set_option maxHeartbeats 400000 in
theorem hexval_yes (c : Int) (w : World) (h : Hex c) :
    Calls Try.prog 24 #[.int .u8 c] w fun e w' => e = .returned (.tuple #[.int .u8 (hexV c), .bool true]) ∧ w' = w := by
  rcases h with ⟨h1, h2⟩ | ⟨h1, h2⟩ | ⟨h1, h2⟩
  · go_enter Try.func24, Try.ntmps24
    go_wp2
    go_ret2
    exact ⟨ret_hex (by unfold hexV; split <;> omega), rfl⟩
  · have hd1 : decide (c ≤ 57) = false := decide_eq_false (by omega)
    go_enter Try.func24, Try.ntmps24
    go_wp2
    go_ret2
    exact ⟨ret_hex (by unfold hexV; split <;> (try split) <;> omega), rfl⟩
  · have hd1 : decide (c ≤ 57) = false := decide_eq_false (by omega)
    go_enter Try.func24, Try.ntmps24
    go_wp2
    go_ret2
    exact ⟨ret_hex (by unfold hexV; split <;> (try split) <;> omega), rfl⟩

set_option maxHeartbeats 400000 in
theorem hexval_no (c : Int) (w : World) (h0 : 0 ≤ c) (h255 : c ≤ 255) (h : ¬ Hex c) :
    Calls Try.prog 24 #[.int .u8 c] w fun e w' => e = .returned (.tuple #[.int .u8 0, .bool false]) ∧ w' = w := by
  have hx' : c < 48 ∨ (57 < c ∧ c < 65) ∨ (70 < c ∧ c < 97) ∨ 102 < c := by unfold Hex at h; omega
  clear h
  rcases hx' with h1 | ⟨h1, h2⟩ | ⟨h1, h2⟩ | h1
  · go_enter Try.func24, Try.ntmps24
    go_wp2
    go_ret2
    exact ⟨rfl, rfl⟩
  · have hd1 : decide (c ≤ 57) = false := decide_eq_false (by omega)
    go_enter Try.func24, Try.ntmps24
    go_wp2
    go_ret2
    exact ⟨rfl, rfl⟩
  · have hd1 : decide (c ≤ 57) = false := decide_eq_false (by omega)
    have hd2 : decide (c ≤ 70) = false := decide_eq_false (by omega)
    go_enter Try.func24, Try.ntmps24
    go_wp2
    go_ret2
    exact ⟨rfl, rfl⟩
  · have hd1 : decide (c ≤ 57) = false := decide_eq_false (by omega)
    have hd2 : decide (c ≤ 70) = false := decide_eq_false (by omega)
    have hd3 : decide (c ≤ 102) = false := decide_eq_false (by omega)
    go_enter Try.func24, Try.ntmps24
    go_wp2
    go_ret2
    exact ⟨rfl, rfl⟩

/-- The lengths' row behind one more byte of group G. -/
theorem ln_row {w : World} {b t : Nat} {f : Nat → Int} {k G : Nat} (h : w.rowIs b t 5 (fun j => .int .i64 (ln f j k : Nat))) (hG : dc f k = G) (hne : f k ≠ 45) :
    (w.setCell ⟨b, G, none⟩ (.int .i64 ((ln f G k : Int) + 1))).rowIs b t 5 (fun j => .int .i64 (ln f j (k + 1) : Nat)) :=
  (h.set G _).congr fun j _ => by
    by_cases e : j = G
    · subst e
      simp only [if_true]
      rw [ln_same hne hG]
      rfl
    · simp only [if_neg e]
      rw [ln_other (fun x => e (x.symm.trans hG))]

set_option maxHeartbeats 1000000 in
theorem group_any (s : ByteArray) (w : World) (hs : s.size ≤ 1048576) :
    Calls Try.prog 12 #[.string s] w fun e w' => RetB e (Grp s.size (ch s)) ∧ Below w.heap.size w w' := by
  go_enter Try.func12, Try.ntmps12
  go_wp2
  go_loopw [4, 5] (fun gv iv wr => ∃ k : Nat, k ≤ s.size ∧ iv = .int .i64 k ∧ gv = .int .i64 (dc (ch s) k : Nat) ∧ dc (ch s) k ≤ 4 ∧ Hid (∀ i, i < k → ch s i = 45 ∨ Hex (ch s i)) ∧
      wr.rowIs w.heap.size 29 5 (fun j => .int .i64 (ln (ch s) j k : Nat)) ∧ Below w.heap.size w wr) (fun _ iv _ => s.size - (intOf iv).toNat)
  case atStart =>
    refine ⟨0, Nat.zero_le _, rfl, rfl, Nat.zero_le _, fun _ h => absurd h (by omega), ?_, (Below.refl _ _).alloc (Nat.le_refl _) _⟩
    exact World.rowIs_alloc w #[.int .i64 0, .int .i64 0, .int .i64 0, .int .i64 0, .int .i64 0] 29 _ (fun i hi => by
      have hi' : i < 5 := hi
      rcases (by omega : i = 0 ∨ i = 1 ∨ i = 2 ∨ i = 3 ∨ i = 4) with rfl | rfl | rfl | rfl | rfl <;> simp [ln])
  case round =>
    obtain ⟨k, hk, rfl, rfl, hg4, HA, hrow, hbw⟩ := hrel
    obtain ⟨G, hG⟩ : ∃ G, dc (ch s) k = G := ⟨_, rfl⟩
    rw [hG] at hg4 ⊢
    have HG : Hid (dc (ch s) k = G) := hG
    clear hG
    by_cases hlt : k < s.size
    · have hch := ch_eq s k hlt
      obtain ⟨hb0, hb1⟩ := ch_bd s k
      by_cases h45 : ch s k = 45
      · have hb45 : (ch s k == 45) = true := beq_iff_eq.2 h45
        have e1 : dc (ch s) (k + 1) = G + 1 := by rw [dc_dash h45, HG.out]
        have HE : Hid (dc (ch s) (k + 1) = G + 1) := e1
        have HR : Hid (∀ j, ln (ch s) j (k + 1) = ln (ch s) j k) := fun j => ln_dash j h45
        have HA' : Hid (∀ i, i < k + 1 → ch s i = 45 ∨ Hex (ch s i)) := fun i hi => by
          by_cases e : i = k
          · rw [e]; exact .inl h45
          · exact HA.out i (by omega)
        clear h45 e1 HA
        by_cases hG4 : G = 4
        · subst hG4
          have HX : Hid (¬ Grp s.size (ch s)) := fun h => by
            have h1 := h.2.1
            have h2 := dc_mono (f := ch s) (show k + 1 ≤ s.size by omega)
            have h3 := HE.out
            omega
          clear hrow
          go_wp2
          go_ret
          exact ⟨RetB.no HX.out, hbw⟩
        · have hd : decide ((4 : Int) < (G : Int) + 1) = false := decide_eq_false (by omega)
          go_wp2
          go_roundw
          case rel => exact ⟨k + 1, by omega, by go_num, by rw [HE.out]; go_num, by rw [HE.out]; omega, HA', hrow.congr (fun j _ => by rw [HR.out j]), hbw⟩
          case measure => simp [intOf]; omega
      · have hb45 : (ch s k == 45) = false := beq_eq_false_iff_ne.2 h45
        by_cases hx : Hex (ch s k)
        · have HE : Hid (dc (ch s) (k + 1) = G) := by show _ = _; rw [dc_other h45, HG.out]
          have hcell : wr.cell? ⟨w.heap.size, G, none⟩ = some (.int .i64 (ln (ch s) G k : Nat)) := hrow.cell (by omega)
          have hfr := hrow.frozen G
          have hll := ln_le (ch s) G k
          have hR := ln_row hrow HG.out h45
          have HA' : Hid (∀ i, i < k + 1 → ch s i = 45 ∨ Hex (ch s i)) := fun i hi => by
            by_cases e : i = k
            · rw [e]; exact .inr hx
            · exact HA.out i (by omega)
          have hF := fun w => hexval_yes (ch s k) w hx
          clear h45 HA hx hrow
          go_wp2_with fail
          refine (hF _).mono ?_
          rintro e w' ⟨rfl, rfl⟩
          clear hF
          go_wp2
          go_roundw
          case rel => exact ⟨k + 1, by omega, by go_num, by rw [HE.out], by rw [HE.out]; omega, HA', hR, hbw.setCell (p := ⟨w.heap.size, G, none⟩) (Nat.le_refl _) _⟩
          case measure => simp [intOf]; omega
        · have hF := fun w => hexval_no (ch s k) w hb0 hb1 hx
          have HX : Hid (¬ Grp s.size (ch s)) := fun h => by
            rcases h.1 k hlt with h1 | h1
            · exact h45 h1
            · exact hx h1
          clear h45 HA hx hrow
          go_wp2_with fail
          refine (hF _).mono ?_
          rintro e w' ⟨rfl, rfl⟩
          clear hF
          go_wp2
          go_ret
          exact ⟨RetB.no HX.out, hbw⟩
    · obtain rfl : k = s.size := by omega
      have c0 := hrow.cell (i := 0) (by omega)
      have c1 := hrow.cell (i := 1) (by omega)
      have c2 := hrow.cell (i := 2) (by omega)
      have c3 := hrow.cell (i := 3) (by omega)
      have c4 := hrow.cell (i := 4) (by omega)
      have HGR0 : Hid (Grp s.size (ch s) ↔ (dc (ch s) s.size = 4 ∧ ln (ch s) 0 s.size = 8 ∧ ln (ch s) 1 s.size = 4 ∧ ln (ch s) 2 s.size = 4 ∧ ln (ch s) 3 s.size = 4 ∧ ln (ch s) 4 s.size = 12)) :=
        ⟨fun h => h.2, fun h => ⟨HA.out, h⟩⟩
      rw [HG.out] at HGR0
      obtain ⟨L0, e0⟩ : ∃ L, ln (ch s) 0 s.size = L := ⟨_, rfl⟩
      obtain ⟨L1, e1⟩ : ∃ L, ln (ch s) 1 s.size = L := ⟨_, rfl⟩
      obtain ⟨L2, e2⟩ : ∃ L, ln (ch s) 2 s.size = L := ⟨_, rfl⟩
      obtain ⟨L3, e3⟩ : ∃ L, ln (ch s) 3 s.size = L := ⟨_, rfl⟩
      obtain ⟨L4, e4⟩ : ∃ L, ln (ch s) 4 s.size = L := ⟨_, rfl⟩
      rw [e0] at c0 HGR0
      rw [e1] at c1 HGR0
      rw [e2] at c2 HGR0
      rw [e3] at c3 HGR0
      rw [e4] at c4 HGR0
      have HGR : Hid (Grp s.size (ch s) ↔ (G = 4 ∧ L0 = 8 ∧ L1 = 4 ∧ L2 = 4 ∧ L3 = 4 ∧ L4 = 12)) := HGR0
      clear e0 e1 e2 e3 e4 HGR0 hrow HA HG
      by_cases q0 : G = 4
      rotate_left
      · have b0 : ((G : Int) == 4) = false := beq_eq_false_iff_ne.2 (by omega)
        have HX : Hid (¬ Grp s.size (ch s)) := fun h => q0 (HGR.out.1 h).1
        clear q0 
        go_wp2
        go_ret
        exact ⟨RetB.no HX.out, hbw⟩
      have b0 : ((G : Int) == 4) = true := by simp [q0]
      by_cases q1 : L0 = 8
      rotate_left
      · have b1 : ((L0 : Int) == 8) = false := beq_eq_false_iff_ne.2 (by omega)
        have HX : Hid (¬ Grp s.size (ch s)) := fun h => q1 (HGR.out.1 h).2.1
        clear q1 q0
        go_wp2
        go_ret
        exact ⟨RetB.no HX.out, hbw⟩
      have b1 : ((L0 : Int) == 8) = true := by simp [q1]
      by_cases q2 : L1 = 4
      rotate_left
      · have b2 : ((L1 : Int) == 4) = false := beq_eq_false_iff_ne.2 (by omega)
        have HX : Hid (¬ Grp s.size (ch s)) := fun h => q2 (HGR.out.1 h).2.2.1
        clear q2 q0 q1
        go_wp2
        go_ret
        exact ⟨RetB.no HX.out, hbw⟩
      have b2 : ((L1 : Int) == 4) = true := by simp [q2]
      by_cases q3 : L2 = 4
      rotate_left
      · have b3 : ((L2 : Int) == 4) = false := beq_eq_false_iff_ne.2 (by omega)
        have HX : Hid (¬ Grp s.size (ch s)) := fun h => q3 (HGR.out.1 h).2.2.2.1
        clear q3 q0 q1 q2
        go_wp2
        go_ret
        exact ⟨RetB.no HX.out, hbw⟩
      have b3 : ((L2 : Int) == 4) = true := by simp [q3]
      by_cases q4 : L3 = 4
      rotate_left
      · have b4 : ((L3 : Int) == 4) = false := beq_eq_false_iff_ne.2 (by omega)
        have HX : Hid (¬ Grp s.size (ch s)) := fun h => q4 (HGR.out.1 h).2.2.2.2.1
        clear q4 q0 q1 q2 q3
        go_wp2
        go_ret
        exact ⟨RetB.no HX.out, hbw⟩
      have b4 : ((L3 : Int) == 4) = true := by simp [q4]
      by_cases q5 : L4 = 12
      rotate_left
      · have b5 : ((L4 : Int) == 12) = false := beq_eq_false_iff_ne.2 (by omega)
        have HX : Hid (¬ Grp s.size (ch s)) := fun h => q5 (HGR.out.1 h).2.2.2.2.2
        clear q5 q0 q1 q2 q3 q4
        go_wp2
        go_ret
        exact ⟨RetB.no HX.out, hbw⟩
      have b5 : ((L4 : Int) == 12) = true := by simp [q5]
      have HXY : Hid (Grp s.size (ch s)) := HGR.out.2 ⟨q0, q1, q2, q3, q4, q5⟩
      clear q0 q1 q2 q3 q4 q5
      go_wp2
      go_ret
      exact ⟨RetB.yes HXY.out, hbw⟩
set_option maxHeartbeats 400000 in
/-- The first law. -/
theorem law3 (s : ByteArray) (w : World) (hs : s.size ≤ maxLen) :
    Calls Try.prog 3 #[.string s] w fun e w' => e = .returned (.bool true) ∧ Below w.heap.size w w' := by
  have hz := zz10_any s w hs
  unfold maxLen at hs
  by_cases hbig : s.size ≤ 1048576
  · have hd : decide ((1048576 : Int) < (s.size : Int)) = false := decide_eq_false (by omega)
    go_enter Try.func3, Try.ntmps3
    go_wp2_with fail
    refine hz.mono ?_
    rintro e w' ⟨⟨v, rfl, hv⟩, rfl⟩
    obtain rfl : v = true := hv.2 hbig
    clear hv hz
    go_wp2_with fail
    refine (zzisuuid_any s _).mono ?_
    rintro e w' ⟨⟨v, rfl, hv⟩, rfl⟩
    have HV : Hid (v = true ↔ IsU s.size (ch s)) := hv
    clear hv
    go_wp2_with fail
    refine (group_any s _ hbig).mono ?_
    rintro e w2 ⟨⟨v2, rfl, hv2⟩, hb2⟩
    obtain rfl : v2 = v := by
      have h1 := HV.out
      rw [grp_iff] at hv2
      cases v <;> cases v2 <;> simp_all
    clear hv2 HV
    cases v2
    all_goals
      go_wp2
      go_ret
      exact ⟨rfl, hb2⟩
  · go_enter Try.func3, Try.ntmps3
    go_wp2_with fail
    refine hz.mono ?_
    rintro e w' ⟨⟨v, rfl, hv⟩, rfl⟩
    obtain rfl : v = false := by
      cases v
      · rfl
      · exact absurd (hv.1 rfl) hbig
    clear hv hz
    go_wp2
    go_ret
    exact ⟨rfl, Below.refl _ _⟩
end Go.Proofs.Qxb6602424a
