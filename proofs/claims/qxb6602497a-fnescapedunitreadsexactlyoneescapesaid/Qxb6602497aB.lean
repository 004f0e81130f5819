import Derived.Test.Qxb6602497aA
namespace Go.Proofs.Qxb6602497a
open Go.RowKit

theorem Try.info5 : (Try.prog.info? 5).map (fun i => (i.zero, i.size, i.bytes)) = some (some (.int .u8 0), 1, 1) := by kernel_rfl

/-- The bytes of a row as its cells. -/
def bys (n : Nat) (D : Nat → Int) : List Value := (List.range n).map fun j => .int .u8 (D j)
theorem bys_len (n : Nat) (D : Nat → Int) : (bys n D).length = n := by simp [bys]
theorem bys_at {n : Nat} {D : Nat → Int} {j : Nat} {v : Value} (h : (bys n D)[j]? = some v) : j < n ∧ v = .int .u8 (D j) := by
  by_cases hj : j < n
  · simp [bys, hj] at h; exact ⟨hj, h.symm⟩
  · rw [List.getElem?_eq_none (by rw [bys_len]; omega)] at h; cases h
theorem bys_row {w : World} {b n : Nat} {D : Nat → Int} {t : TypeId} (h : w.heap[b]? = some (.cells (bys n D).toArray t (0, 0))) : w.rowIs b t n (fun i => .int .u8 (D i)) :=
  ⟨_, h, by simp [bys], fun i hi => by simp [bys, hi]⟩
theorem zeros_made (n : Nat) : madeCells #[.int .u8 0] n = (List.replicate n (.int .u8 0)).toArray := by
  apply Array.toList_inj.1
  rw [toList_madeCells_one]
theorem splice_all (n : Nat) (D : Nat → Int) : splice (List.replicate n (.int .u8 0)) 0 (bys n D) = bys n D := by
  simp [splice, bys_len]


set_option maxRecDepth 100000 in
set_option maxHeartbeats 1000000 in
theorem law_row (x : Addr) (n c : Nat) (i : Int) (D : Nat → Int) (w : World) (hn : n ≤ 1048576) (h0 : 0 ≤ i) (h1 : i ≤ 9223372036854775802)
    (hD : ∀ j, j < n → w.cell? (x.add j) = some (.int .u8 (D j))) (hbd : ∀ j, 0 ≤ D j ∧ D j ≤ 255) :
    Calls Try.prog 3 #[.slice (some x) n c, .int .i64 i] w fun e w' => e = .returned (.bool true) ∧ Below w.heap.size w w' := by
  have hz := zz5_any (some x) n c i w (by unfold maxLen; omega)
  have hd1 : decide ((1048576 : Int) < (n : Int)) = false := decide_eq_false (by omega)
  have hd2 : decide (i < 0) = false := decide_eq_false (by omega)
  have hd3 : decide (9223372036854775802 < i) = false := decide_eq_false (by omega)
  have hmk := fun w => run_make_row' (P := Try.prog) 22 5 (.int .u8 0) 1 Try.underlying22 Try.info5 rfl .i64 .i64 n (by omega) (by omega) w
  have hnil := fun w => run_neq_slice_nil_any (P := Try.prog) w 22 5 (some x) n c 0 0 Try.underlying22
  simp only [Option.isNone_some, Bool.not_false] at hnil
  obtain ⟨cs, hcs⟩ : ∃ cs, cs = bys n D := ⟨_, rfl⟩
  have HCS : Hid (cs = bys n D) := hcs
  have hlen : cs.length = n := by rw [hcs, bys_len]
  have HLEN : Hid (cs.length = n) := hlen
  clear hcs hlen
  go_enter Try.func3, Try.ntmps3
  go_wp2_with fail
  refine hz.mono ?_
  rintro e w0 ⟨⟨v, rfl, hv⟩, rfl⟩
  obtain rfl : v = true := hv.2 hn
  clear hv hz
  go_wp2_with (refine wpList_copy_splice rfl (.tmp 28) (.tmp 29) 22 22 rfl 5 Try.underlying22 ?c1 _ _ _ _ _ _ rfl rfl w0.heap.size 0 (List.replicate n (.int .u8 0)) 5 ?c2 cs ?c3 ?c4 ?c5 ?c6 w0.heap.size w0 ?c7 (Nat.le_refl _) ?_)
  case c1 => kernel_rfl
  case c2 => rw [zeros_made]; exact heap_alloc_new _ _
  case c3 => rw [HLEN.out]; simp
  case c4 =>
    intro _ j v hv
    rw [HCS.out] at hv
    obtain ⟨hj, rfl⟩ := bys_at hv
    rw [← hD j hj]
    exact World.cell?_alloc_lt _ _ _ (World.block_lt_of_cell? _ _ (hD j hj))
  case c5 => rw [HLEN.out]; simp
  case c6 =>
    intro v hv
    rw [HCS.out] at hv
    simp only [bys, List.mem_map] at hv
    obtain ⟨j, _, rfl⟩ := hv
    rfl
  case c7 => exact (Below.refl _ _).alloc (Nat.le_refl _) _
  intro w2 HG2 hbw
  have hg2 := HG2.out
  rw [HCS.out, splice_all] at hg2
  have hrow := bys_row hg2
  clear hg2 HG2 hmk hnil hD HCS HLEN
  by_cases hsh : (n : Int) ≤ i + 5
  · have hF := zzesc_short (some ⟨w0.heap.size, 0, none⟩) n n i w2 h0 h1 hsh
    have hdw : decide (i ≤ (n : Int) - 6) = false := decide_eq_false (by omega)
    clear hrow hbd
    go_wp2_with fail
    refine hF.mono ?_
    rintro e w3 ⟨rfl, rfl⟩
    go_wp2
    go_ret
    exact ⟨rfl, hbw⟩
  · obtain ⟨k, rfl⟩ : ∃ k : Nat, i = (k : Int) := ⟨i.toNat, by omega⟩
    have hk6 : k + 6 ≤ n := by omega
    have hF := zzesc_any w0.heap.size n k D w2 hn hk6 (fun j hj => hrow.cell hj) hbd
    have hdw : decide ((k : Int) ≤ (n : Int) - 6) = true := decide_eq_true (by omega)
    have c0 := hrow.cell (i := k) (by omega)
    have c1 := hrow.cell (i := k + 1) (by omega)
    have c2 := hrow.cell (i := k + 2) (by omega)
    have c3 := hrow.cell (i := k + 3) (by omega)
    have c4 := hrow.cell (i := k + 4) (by omega)
    have c5 := hrow.cell (i := k + 5) (by omega)
    clear hrow hbd hsh
    go_wp2_with fail
    refine hF.mono ?_
    clear hF
    rintro e w3 ⟨⟨hE, rfl⟩ | ⟨hE, rfl⟩, rfl⟩
    · obtain ⟨hE1, hE2, hE3⟩ := hE
      have b0 : (D k == 92) = true := beq_iff_eq.2 hE1
      have b1 : (D (k + 1) == 117) = true := beq_iff_eq.2 hE2
      have hub := uv_bd hE3
      have n0 := uv_nib hE3 (j := 0) (by omega)
      have n1 := uv_nib hE3 (j := 1) (by omega)
      have n2 := uv_nib hE3 (j := 2) (by omega)
      have n3 := uv_nib hE3 (j := 3) (by omega)
      have z2 : 0 ≤ hexZ (D (k + 2)) := (hub.1 0 (by omega)).1
      have z3 : 0 ≤ hexZ (D (k + 3)) := (hub.1 1 (by omega)).1
      have z4 : 0 ≤ hexZ (D (k + 4)) := (hub.1 2 (by omega)).1
      have z5 : 0 ≤ hexZ (D (k + 5)) := (hub.1 3 (by omega)).1
      have y2 : hexZ (D (k + 2)) ≤ 15 := (hub.1 0 (by omega)).2
      have y3 : hexZ (D (k + 3)) ≤ 15 := (hub.1 1 (by omega)).2
      have y4 : hexZ (D (k + 4)) ≤ 15 := (hub.1 2 (by omega)).2
      have y5 : hexZ (D (k + 5)) ≤ 15 := (hub.1 3 (by omega)).2
      obtain ⟨U, hU⟩ : ∃ U, uv D (k + 2) 4 = U := ⟨_, rfl⟩
      rw [hU] at hub n0 n1 n2 n3 ⊢
      have hU0 : 0 ≤ U := hub.2.2.2.2.2.2.2.1
      have hU1 : U ≤ 65535 := hub.2.2.2.2.2.2.2.2
      have N0 : Hid (U / 4096 % 16 = hexZ (D (k + 2))) := n0
      have N1 : Hid (U / 256 % 16 = hexZ (D (k + 3))) := n1
      have N2 : Hid (U / 16 % 16 = hexZ (D (k + 4))) := n2
      have N3 : Hid (U % 16 = hexZ (D (k + 5))) := by have h := n3; simp at h; exact h
      clear hE1 hE2 hE3 hub n0 n1 n2 n3 hU
      have hdU : decide (65535 < U) = false := decide_eq_false (by omega)
      have hdU0 : decide (U < 0) = false := decide_eq_false (by omega)
      go_wp2_with (go_at_call 7; refine (hex_any _ _).mono ?_; rintro e w' ⟨rfl, rfl⟩)
      have hA : ∀ X : Int, 0 ≤ X → X ≤ 65535 → bits BinOp.and IntKind.i32 X 15 = X % 16 := fun X h1 h2 => bits_mask .i32 31 (by decide) wraps_i32 4 (by decide) X h1 (by omega)
      have m0 : bits BinOp.and IntKind.i32 (U / 4096) 15 = hexZ (D (k + 2)) := by rw [hA _ (by omega) (by omega)]; exact N0.out
      have m1 : bits BinOp.and IntKind.i32 (U / 256) 15 = hexZ (D (k + 3)) := by rw [hA _ (by omega) (by omega)]; exact N1.out
      have m2 : bits BinOp.and IntKind.i32 (U / 16) 15 = hexZ (D (k + 4)) := by rw [hA _ (by omega) (by omega)]; exact N2.out
      have m3 : bits BinOp.and IntKind.i32 U 15 = hexZ (D (k + 5)) := by rw [hA _ (by omega) (by omega)]; exact N3.out
      clear hA N0 N1 N2 N3
      go_loop [9] (fun v => ∃ j : Nat, j ≤ 4 ∧ v = .int .i64 j) (fun v => 4 - (intOf v).toNat)
      case atStart => exact ⟨0, Nat.zero_le _, rfl⟩
      case round =>
        obtain ⟨j, hj, rfl⟩ := hrel
        rcases (by omega : j = 0 ∨ j = 1 ∨ j = 2 ∨ j = 3 ∨ j = 4) with rfl | rfl | rfl | rfl | rfl
        · go_wp2_with (go_at_call 7; refine (hex_any _ _).mono ?_; rintro e w' ⟨rfl, rfl⟩)
          go_round
          case rel => exact ⟨1, by omega, rfl⟩
          case measure => simp [intOf]
        · go_wp2_with (go_at_call 7; refine (hex_any _ _).mono ?_; rintro e w' ⟨rfl, rfl⟩)
          go_round
          case rel => exact ⟨2, by omega, rfl⟩
          case measure => simp [intOf]
        · go_wp2_with (go_at_call 7; refine (hex_any _ _).mono ?_; rintro e w' ⟨rfl, rfl⟩)
          go_round
          case rel => exact ⟨3, by omega, rfl⟩
          case measure => simp [intOf]
        · go_wp2_with (go_at_call 7; refine (hex_any _ _).mono ?_; rintro e w' ⟨rfl, rfl⟩)
          go_round
          case rel => exact ⟨4, by omega, rfl⟩
          case measure => simp [intOf]
        · go_wp2
          go_ret
          exact ⟨rfl, hbw⟩
    · have hnE : Hid (¬ Esc D k) := hE
      clear hE
      by_cases q0 : D k = 92
      rotate_left
      · have b0 : (D k == 92) = false := beq_eq_false_iff_ne.2 q0
        clear q0  hnE
        go_wp2_with (go_at_call 7; refine (hex_any _ _).mono ?_; rintro e w' ⟨rfl, rfl⟩)
        go_ret
        exact ⟨rfl, hbw⟩
      have b0 : (D k == 92) = true := beq_iff_eq.2 q0
      by_cases q1 : D (k + 1) = 117
      rotate_left
      · have b1 : (D (k + 1) == 117) = false := beq_eq_false_iff_ne.2 q1
        clear q1 q0 hnE
        go_wp2_with (go_at_call 7; refine (hex_any _ _).mono ?_; rintro e w' ⟨rfl, rfl⟩)
        go_ret
        exact ⟨rfl, hbw⟩
      have b1 : (D (k + 1) == 117) = true := beq_iff_eq.2 q1
      by_cases q2 : Hex (D (k + 2))
      rotate_left
      · have b2 := hexZ_no q2
        have b2' : decide (0 ≤ hexZ (D (k + 2))) = false := decide_eq_false (by omega)
        clear b2
        clear q2 q0 q1 hnE
        go_wp2_with (go_at_call 7; refine (hex_any _ _).mono ?_; rintro e w' ⟨rfl, rfl⟩)
        go_ret
        exact ⟨rfl, hbw⟩
      have b2 : 0 ≤ hexZ (D (k + 2)) := (hexZ_yes q2).1
      by_cases q3 : Hex (D (k + 3))
      rotate_left
      · have b3 := hexZ_no q3
        have b3' : decide (0 ≤ hexZ (D (k + 3))) = false := decide_eq_false (by omega)
        clear b3
        clear q3 q0 q1 q2 hnE
        go_wp2_with (go_at_call 7; refine (hex_any _ _).mono ?_; rintro e w' ⟨rfl, rfl⟩)
        go_ret
        exact ⟨rfl, hbw⟩
      have b3 : 0 ≤ hexZ (D (k + 3)) := (hexZ_yes q3).1
      by_cases q4 : Hex (D (k + 4))
      rotate_left
      · have b4 := hexZ_no q4
        have b4' : decide (0 ≤ hexZ (D (k + 4))) = false := decide_eq_false (by omega)
        clear b4
        clear q4 q0 q1 q2 q3 hnE
        go_wp2_with (go_at_call 7; refine (hex_any _ _).mono ?_; rintro e w' ⟨rfl, rfl⟩)
        go_ret
        exact ⟨rfl, hbw⟩
      have b4 : 0 ≤ hexZ (D (k + 4)) := (hexZ_yes q4).1
      by_cases q5 : Hex (D (k + 5))
      rotate_left
      · have b5 := hexZ_no q5
        have b5' : decide (0 ≤ hexZ (D (k + 5))) = false := decide_eq_false (by omega)
        clear b5
        clear q5 q0 q1 q2 q3 q4 hnE
        go_wp2_with (go_at_call 7; refine (hex_any _ _).mono ?_; rintro e w' ⟨rfl, rfl⟩)
        go_ret
        exact ⟨rfl, hbw⟩
      have b5 : 0 ≤ hexZ (D (k + 5)) := (hexZ_yes q5).1
      exact absurd ⟨q0, q1, fun j hj => by
        rcases (by omega : j = 0 ∨ j = 1 ∨ j = 2 ∨ j = 3) with rfl | rfl | rfl | rfl
        · exact q2
        · exact q3
        · exact q4
        · exact q5⟩ hnE.out
set_option maxRecDepth 100000 in
set_option maxHeartbeats 400000 in
/-- The nil slice. -/
theorem law_nil (i : Int) (w : World) (h0 : 0 ≤ i) (h1 : i ≤ 9223372036854775802) :
    Calls Try.prog 3 #[.slice none 0 0, .int .i64 i] w fun e w' => e = .returned (.bool true) ∧ Below w.heap.size w w' := by
  have hz := zz5_any none 0 0 i w (by unfold maxLen; omega)
  have hd2 : decide (i < 0) = false := decide_eq_false (by omega)
  have hd3 : decide (9223372036854775802 < i) = false := decide_eq_false (by omega)
  have hnil := fun w => run_neq_slice_nil_any (P := Try.prog) w 22 5 none 0 0 0 0 Try.underlying22
  simp only [Option.isNone_none, Bool.not_true] at hnil
  have hF := fun w => zzesc_short none 0 0 i w h0 h1 (by omega)
  have hdw : decide (i ≤ -6) = false := decide_eq_false (by omega)
  go_enter Try.func3, Try.ntmps3
  go_wp2_with fail
  refine hz.mono ?_
  rintro e w0 ⟨⟨v, rfl, hv⟩, rfl⟩
  obtain rfl : v = true := hv.2 (by omega)
  clear hv hz
  go_wp2_with fail
  refine (hF _).mono ?_
  rintro e w3 ⟨rfl, rfl⟩
  go_wp2
  go_ret
  exact ⟨rfl, Below.refl _ _⟩

set_option maxHeartbeats 400000 in
/-- Outside the law's range. -/
theorem law_out (a : Option Addr) (n c : Nat) (i : Int) (w : World) (hn : n ≤ maxLen) (hx : ¬ (n ≤ 1048576 ∧ 0 ≤ i ∧ i ≤ 9223372036854775802)) :
    Calls Try.prog 3 #[.slice a n c, .int .i64 i] w fun e w' => e = .returned (.bool true) ∧ Below w.heap.size w w' := by
  have hz := zz5_any a n c i w hn
  unfold maxLen at hn
  by_cases h1 : n ≤ 1048576
  · have hd1 : decide ((1048576 : Int) < (n : Int)) = false := decide_eq_false (by omega)
    by_cases h2 : i < 0
    · have hd2 : decide (i < 0) = true := decide_eq_true h2
      go_enter Try.func3, Try.ntmps3
      go_wp2_with fail
      refine hz.mono ?_
      rintro e w0 ⟨⟨v, rfl, hv⟩, rfl⟩
      obtain rfl : v = true := hv.2 (by omega)
      clear hv hz
      go_wp2
      go_ret
      exact ⟨rfl, Below.refl _ _⟩
    · have hd2 : decide (i < 0) = false := decide_eq_false h2
      have hd3 : decide (9223372036854775802 < i) = true := decide_eq_true (by omega)
      go_enter Try.func3, Try.ntmps3
      go_wp2_with fail
      refine hz.mono ?_
      rintro e w0 ⟨⟨v, rfl, hv⟩, rfl⟩
      obtain rfl : v = true := hv.2 (by omega)
      clear hv hz
      go_wp2
      go_ret
      exact ⟨rfl, Below.refl _ _⟩
  · go_enter Try.func3, Try.ntmps3
    go_wp2_with fail
    refine hz.mono ?_
    rintro e w0 ⟨⟨v, rfl, hv⟩, rfl⟩
    obtain rfl : v = false := by
      cases v
      · rfl
      · exact absurd (hv.1 rfl) h1
    clear hv hz
    go_wp2
    go_ret
    exact ⟨rfl, Below.refl _ _⟩

end Go.Proofs.Qxb6602497a
