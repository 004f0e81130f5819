import Derived.Test.Qxb6602322aF
namespace Go.Proofs.Qxb6602322a
open Go.RowKit

theorem rows_of {w : World} {b t N : Nat} {k : IntKind} {f : Nat → Int} (h : w.rowIs b t N (fun i => .int k (f i))) : ∀ i, i < N → w.cell? ⟨b, 0 + i, none⟩ = some (.int k (f i)) :=
  fun i hi => by rw [Nat.zero_add]; exact h.cell hi
theorem rowIs_below {w w' : World} {b t N : Nat} {f : Nat → Value} (h : w.rowIs b t N f) (hb : Below w.heap.size w w') : w'.rowIs b t N f := h.of_block (hb.block b h.lt)

theorem zz22_yes (a0 a1 : Option Addr) (n0 c0 n1 c1 : Nat) (sh n seed id : Int) (w : World) (h0 : n0 ≤ 4096) (h1 : n1 ≤ 4096) :
    Calls Try.prog 22 #[.slice a0 n0 c0, .slice a1 n1 c1, .int .i64 sh, .int .i64 n, .int .u64 seed, .int .u64 id] w fun e w' => e = .returned (.bool true) ∧ w' = w :=
  (zz22_any a0 a1 n0 c0 n1 c1 sh n seed id w (by unfold maxLen; omega) (by unfold maxLen; omega)).mono fun e w' ⟨⟨v, hv, hi⟩, hw⟩ => ⟨by rw [hv, hi.2 (by omega)], hw⟩
theorem zz27_yes (a0 a1 : Option Addr) (n0 c0 n1 c1 : Nat) (sh n seed id : Int) (w : World) (h0 : n0 ≤ 4096) (h1 : n1 ≤ 4096) :
    Calls Try.prog 27 #[.slice a0 n0 c0, .slice a1 n1 c1, .int .i64 sh, .int .i64 n, .int .u64 seed, .int .u64 id] w fun e w' => e = .returned (.bool true) ∧ w' = w :=
  (zz27_any a0 a1 n0 c0 n1 c1 sh n seed id w (by unfold maxLen; omega) (by unfold maxLen; omega)).mono fun e w' ⟨⟨v, hv, hi⟩, hw⟩ => ⟨by rw [hv, hi.2 (by omega)], hw⟩

set_option maxHeartbeats 400000 in
theorem valid_zero (a0 a1 : Option Addr) (c0 c1 : Nat) (sh n seed : Int) (w : World) :
    Calls Try.prog 23 #[.slice a0 0 c0, .slice a1 0 c1, .int .i64 sh, .int .i64 n, .int .u64 seed] w fun e w' => e = .returned (.bool false) ∧ w' = w := by
  go_enter Try.func23, Try.ntmps23
  go_wp2
  go_ret
  exact ⟨rfl, rfl⟩

/-- A valid table, said in the plain words. -/
theorem validP_iff {N : Nat} {I S : Nat → Int} {sh n seed : Int} : ValidP N I S sh n seed ↔ ∃ lg, PowT lg N ∧ sh = 64 - (lg : Int) ∧ cntFull S N ≠ N ∧ (cntFull S N : Int) = n ∧ Good N (hmP lg seed) I S := by
  constructor
  · rintro ⟨lg, h1, h2, h3, h4, h5⟩
    refine ⟨lg, h1, h2, h3, h4, fun k hk hs => ?_⟩
    subst h2
    exact (find_iff (hmP_lt h1 seed _).1).1 (h5 k hk hs)
  · rintro ⟨lg, h1, h2, h3, h4, h5⟩
    refine ⟨lg, h1, h2, h3, h4, fun k hk hs => ?_⟩
    subst h2
    exact (find_iff (hmP_lt h1 seed _).1).2 (h5 k hk hs)

/-- The probe finds g: its contract. -/
theorem find_hit {lg N b0 o0 c0 b1 o1 c1 : Nat} {I S : Nat → Int} {seed id : Int} {w : World} (hN : PowT lg N)
    (hI : ∀ i, i < N → w.cell? ⟨b0, o0 + i, none⟩ = some (.int .u64 (I i))) (hS : ∀ i, i < N → w.cell? ⟨b1, o1 + i, none⟩ = some (.int .i64 (S i)))
    (hb0 : b0 < w.heap.size) (hb1 : b1 < w.heap.size) {r : Int} (hr : findFrom N I S id N (hmP lg seed id) = r) :
    Calls Try.prog 24 #[.slice (some ⟨b0, o0, none⟩) N c0, .slice (some ⟨b1, o1, none⟩) N c1, .int .i64 (64 - (lg : Int)), .int .u64 seed, .int .u64 id] w fun e w' =>
      e = .returned (.int .i64 r) ∧ Below w.heap.size w w' := by
  have h := find_any lg N b0 o0 c0 b1 o1 c1 I S seed id w hN hI hS hb0 hb1
  rw [show (homeZ (64 - (lg : Int)) seed id).toNat = hmP lg seed id from rfl, hr] at h
  exact h

set_option maxRecDepth 100000 in
set_option maxHeartbeats 1000000 in
theorem drop_pos (N b0 o0 c0 b1 o1 c1 : Nat) (I S : Nat → Int) (sh n seed id : Int) (w : World) (hpos : 0 < N) (hle : N ≤ 4096)
    (hI : ∀ i, i < N → w.cell? ⟨b0, o0 + i, none⟩ = some (.int .u64 (I i))) (hS : ∀ i, i < N → w.cell? ⟨b1, o1 + i, none⟩ = some (.int .i64 (S i)))
    (hb0 : b0 < w.heap.size) (hb1 : b1 < w.heap.size) :
    Calls Try.prog 7 #[.slice (some ⟨b0, o0, none⟩) N c0, .slice (some ⟨b1, o1, none⟩) N c1, .int .i64 sh, .int .i64 n, .int .u64 seed, .int .u64 id] w fun e w' => e = .returned (.bool true) ∧ Below w.heap.size w w' := by
  have hd1 : decide ((4096 : Int) < (N : Int)) = false := decide_eq_false (by omega)
  have hd2 : ((N : Int) != (N : Int)) = false := by simp
  go_enter Try.func7, Try.ntmps7
  go_wp2_with fail
  refine (zz22_yes _ _ _ _ _ _ _ _ _ _ _ hle hle).mono ?_
  rintro e w' ⟨rfl, rfl⟩
  go_wp2_with fail
  refine (valid_any N b0 o0 c0 b1 o1 c1 I S sh n seed w' hpos hle hI hS hb0 hb1).mono ?_
  rintro e w1 ⟨⟨v, rfl, hv⟩, hbel1⟩
  cases v
  · clear hv hI hS
    go_wp2
    go_ret
    exact ⟨rfl, hbel1⟩
  obtain ⟨lg, hN, rfl, hcN, rfl, hgood⟩ := validP_iff.1 (hv.1 rfl)
  have HG : Hid (Good N (hmP lg seed) I S) := hgood
  have hI1 : ∀ i, i < N → w1.cell? ⟨b0, o0 + i, none⟩ = some (.int .u64 (I i)) := fun i hi => (hbel1.cell (p := ⟨b0, o0 + i, none⟩) hb0).trans (hI i hi)
  have hS1 : ∀ i, i < N → w1.cell? ⟨b1, o1 + i, none⟩ = some (.int .i64 (S i)) := fun i hi => (hbel1.cell (p := ⟨b1, o1 + i, none⟩) hb1).trans (hS i hi)
  have hsz1 := hbel1.size
  have hlg := hN.1
  obtain ⟨e0, he0, hse0⟩ := cnt_empty hcN
  have HS0 : Hid (S e0 = 0) := hse0
  have hCl := cntFull_le S N
  obtain ⟨C, hC⟩ : ∃ C, cntFull S N = C := ⟨_, rfl⟩
  rw [hC] at hCl ⊢
  have HC : Hid (cntFull S N = C) := hC
  clear hI hS hv hcN hgood hse0 hC
  go_wp2_with fail
  obtain ⟨r, hr⟩ : ∃ r, findFrom N I S id N (hmP lg seed id) = r := ⟨_, rfl⟩
  have HR : Hid (findFrom N I S id N (hmP lg seed id) = r) := hr
  clear hr
  refine (find_hit hN hI1 hS1 (by omega) (by omega) HR.out).mono ?_
  rintro e w2 ⟨rfl, hbel2⟩
  by_cases hrn : r < 0
  · go_wp2
    go_ret
    exact ⟨rfl, hbel1.trans (hbel2.mono hsz1)⟩
  obtain ⟨g0, hg0e, _, hit⟩ := hit_of_find N _ (hmP_lt hN seed id).1 (Nat.le_refl _) (by rw [HR.out]; omega)
  rw [HR.out] at hg0e
  subst hg0e
  have hg0 := hit.1
  have HH : Hid (Hit N I S id (hmP lg seed id) g0) := hit
  clear hit hrn
  have hbel3 := hbel1.trans (hbel2.mono hsz1)
  have hI2 : ∀ i, i < N → w2.cell? ⟨b0, o0 + i, none⟩ = some (.int .u64 (I i)) := fun i hi => (hbel2.cell (p := ⟨b0, o0 + i, none⟩) (by show b0 < _; omega)).trans (hI1 i hi)
  have hS2 : ∀ i, i < N → w2.cell? ⟨b1, o1 + i, none⟩ = some (.int .i64 (S i)) := fun i hi => (hbel2.cell (p := ⟨b1, o1 + i, none⟩) (by show b1 < _; omega)).trans (hS1 i hi)
  have hsz2 := hbel3.size
  clear hI1 hS1 hbel1 hbel2 hsz1
  go_wp2_with fail
  refine (cloneU_any N b0 o0 c0 I w2 hle hI2 (by omega)).mono ?_
  rintro e w3 ⟨rfl, hrow1, hbel4⟩
  have hS3 : ∀ i, i < N → w3.cell? ⟨b1, o1 + i, none⟩ = some (.int .i64 (S i)) := fun i hi => (hbel4.cell (p := ⟨b1, o1 + i, none⟩) (by show b1 < _; omega)).trans (hS2 i hi)
  have hsz3 := hbel4.size
  have hbel5 := hbel3.trans (hbel4.mono hsz2)
  clear hI2 hS2 hbel3 hbel4
  go_wp2_with fail
  refine (cloneI_any N b1 o1 c1 S w3 hle hS3 (by omega)).mono ?_
  rintro e w4 ⟨rfl, hrow2, hbel6⟩
  have hrow3 := rowIs_below hrow1 hbel6
  have hsz4 := hbel6.size
  have hbel7 := hbel5.trans (hbel6.mono (by omega))
  have hl1 := hrow3.lt
  have hl2 := hrow2.lt
  clear hS3 hbel5 hbel6 hrow1
  go_wp2_with fail
  refine (find_hit hN (rows_of hrow3) (rows_of hrow2) hl1 hl2 HR.out).mono ?_
  rintro e w5 ⟨rfl, hbel8⟩
  have hrow4 := rowIs_below hrow3 hbel8
  have hrow5 := rowIs_below hrow2 hbel8
  have hsz5 := hbel8.size
  have hbel9 := hbel7.trans (hbel8.mono (by omega))
  clear hrow3 hrow2 hbel7 hbel8
  go_wp2_with fail
  refine (zzremove_any lg N _ 0 _ _ 0 _ g0 e0 (C : Int) seed id I S w5 hN (rows_of hrow4) (rows_of hrow5) hrow4.lt hrow5.lt (by omega) (by omega) HG.out HH.out he0 HS0.out).mono ?_
  rintro e w6 ⟨R, RS, g, e1, bi, bs, rfl, hdone, hrow6, hrow7, hbel10⟩
  have hrow8 := rowIs_below hrow4 hbel10
  have hrow9 := rowIs_below hrow5 hbel10
  have hbel11 := hbel9.trans (hbel10.mono (by omega))
  have HD : Hid (Done N (hmP lg seed) I S g0 R RS g e1) := hdone
  clear hrow4 hrow5 hbel9 hbel10 hdone
  have hbn1 : ((64 - (lg : Int)) != (64 - (lg : Int))) = false := by simp
  have hbn2 : (seed != seed) = false := by simp
  have hbn3 : (((C : Int) - 1) != ((C : Int) - 1)) = false := by simp
  go_wp2_with fail
  refine (valid_any N bi 0 N bs 0 N R RS (64 - (lg : Int)) ((C : Int) - 1) seed w6 hpos hle (rows_of hrow6) (rows_of hrow7) hrow6.lt hrow7.lt).mono ?_
  rintro e w7 ⟨⟨v, rfl, hv⟩, hbel12⟩
  have hvt : v = true := by
    refine hv.2 (validP_iff.2 ⟨lg, hN, rfl, ?_, ?_, HD.out.good⟩)
    · have := HD.out.cnt; have := HC.out; omega
    · have := HD.out.cnt; have := HC.out; omega
  subst hvt
  clear hv
  have hsz6 := hbel11.size
  have hrowA := rowIs_below hrow6 hbel12
  have hrowB := rowIs_below hrow7 hbel12
  have hrowC := rowIs_below hrow8 hbel12
  have hrowD := rowIs_below hrow9 hbel12
  have hbel13 := hbel11.trans (hbel12.mono (by omega))
  clear hrow6 hrow7 hrow8 hrow9 hbel11 hbel12
  go_wp2_with fail
  have hgone : findFrom N R RS id N (hmP lg seed id) = -1 := by
    have h := HD.out.gone HG.out (fun x => (hmP_lt hN seed x).1) hg0 HH.out.2.1
    rw [HH.out.2.2.1] at h
    exact h
  refine (find_hit hN (rows_of hrowA) (rows_of hrowB) hrowA.lt hrowB.lt hgone).mono ?_
  clear hgone
  rintro e w8 ⟨rfl, hbel14⟩
  have hsz7 := hbel13.size
  have hrowE := rowIs_below hrowA hbel14
  have hrowF := rowIs_below hrowB hbel14
  have hrowG := rowIs_below hrowC hbel14
  have hrowH := rowIs_below hrowD hbel14
  have hbel15 := hbel13.trans (hbel14.mono (by omega))
  clear hrowA hrowB hrowC hrowD hbel13 hbel14 hsz7 hsz6 hsz5 hsz4 hsz3 hsz2
  go_wp2_with fail
  go_loopw [19] (fun kv wr => ∃ k : Nat, k ≤ N ∧ kv = .int .i64 k ∧ Below w8.heap.size w8 wr) (fun kv _ => N - (intOf kv).toNat)
  case atStart => exact ⟨0, Nat.zero_le _, rfl, Below.refl _ _⟩
  case round =>
    obtain ⟨k, hk, rfl, hbw⟩ := hrel
    have hr1 := rowIs_below hrowE hbw
    have hr2 := rowIs_below hrowF hbw
    have hr3 := rowIs_below hrowG hbw
    have hr4 := rowIs_below hrowH hbw
    have hszw := hbw.size
    have hszv := hbel15.size
    clear hrowE hrowF hrowG hrowH
    by_cases hlt : k < N
    · have hcS := hr4.cell hlt
      have hcI := hr3.cell hlt
      by_cases hs0 : S k = 0
      · have hbs : (S k == 0) = true := beq_iff_eq.2 hs0
        clear hs0 hr1 hr2 hr3 hr4
        go_wp2
        go_roundw
        case rel => exact ⟨k + 1, by omega, by go_num, hbw⟩
        case measure => simp [intOf]; omega
      · have hbs : (S k == 0) = false := beq_eq_false_iff_ne.2 hs0
        by_cases hkg : k = g0
        · have hbk : ((k : Int) == (g0 : Int)) = true := by simp [hkg]
          clear hs0 hr1 hr2 hr3 hr4 hkg
          go_wp2
          go_roundw
          case rel => exact ⟨k + 1, by omega, by go_num, hbw⟩
          case measure => simp [intOf]; omega
        · have hbk : ((k : Int) == (g0 : Int)) = false := beq_eq_false_iff_ne.2 (by omega)
          obtain ⟨p, hp, hfp, hsp⟩ := HD.out.found (fun x => (hmP_lt hN seed x).1) hlt hkg hs0
          have hF := find_hit (c0 := N) (c1 := N) hN (rows_of hr1) (rows_of hr2) hr1.lt hr2.lt hfp
          have hbq : (RS p != S k) = false := by simp [hsp]
          have hdp : decide ((p : Int) < 0) = false := decide_eq_false (by omega)
          clear hfp hsp hs0 hkg
          go_wp2_with fail
          refine hF.mono ?_
          rintro e w9 ⟨rfl, hbel16⟩
          have hr5 := rowIs_below hr2 hbel16
          have hr6 := rowIs_below hr4 hbel16
          have hc5 := hr5.cell hp
          have hc6 := hr6.cell hlt
          clear hr1 hr2 hr3 hr4 hF hcS hcI
          go_wp2
          go_quiet (fail)
          go_wp2
          go_roundw
          case rel => exact ⟨k + 1, by omega, by go_num, below_drewN (hbw.trans (hbel16.mono hszw)) _⟩
          case measure => simp [intOf]; omega
    · clear hr1 hr2 hr3 hr4
      go_wp2
      go_ret
      exact ⟨rfl, hbel15.trans (hbw.mono (by omega))⟩
set_option maxHeartbeats 1000000 in
/-- Outside the law's range the answer is true at once. -/
theorem drop_out (a0 a1 : Option Addr) (n0 c0 n1 c1 : Nat) (sh n seed id : Int) (w : World) (h0 : n0 ≤ maxLen) (h1 : n1 ≤ maxLen) (hx : ¬ (0 < n0 ∧ n0 ≤ 4096 ∧ n0 = n1)) :
    Calls Try.prog 7 #[.slice a0 n0 c0, .slice a1 n1 c1, .int .i64 sh, .int .i64 n, .int .u64 seed, .int .u64 id] w fun e w' => e = .returned (.bool true) ∧ Below w.heap.size w w' := by
  have hz := zz22_any a0 a1 n0 c0 n1 c1 sh n seed id w h0 h1
  by_cases hp : 4096 < n0
  · have hd1 : decide ((4096 : Int) < (n0 : Int)) = true := decide_eq_true (by omega)
    go_enter Try.func7, Try.ntmps7
    go_wp2_with fail
    refine hz.mono ?_
    rintro e w' ⟨⟨v, rfl, hv⟩, rfl⟩
    clear hv hz
    cases v
    all_goals
      go_wp2
      go_ret
      exact ⟨rfl, Below.refl _ _⟩
  have hd1 : decide ((4096 : Int) < (n0 : Int)) = false := decide_eq_false (by omega)
  by_cases hp1 : 4096 < n1
  · have hd2 : decide ((4096 : Int) < (n1 : Int)) = true := decide_eq_true (by omega)
    go_enter Try.func7, Try.ntmps7
    go_wp2_with fail
    refine hz.mono ?_
    rintro e w' ⟨⟨v, rfl, hv⟩, rfl⟩
    clear hv hz
    cases v
    all_goals
      go_wp2
      go_ret
      exact ⟨rfl, Below.refl _ _⟩
  have hd2 : decide ((4096 : Int) < (n1 : Int)) = false := decide_eq_false (by omega)
  by_cases hp2 : n0 = n1
  · obtain rfl : n0 = 0 := by omega
    subst hp2
    clear hx
    go_enter Try.func7, Try.ntmps7
    go_wp2_with fail
    refine (zz22_yes _ _ _ _ _ _ _ _ _ _ _ (by omega) (by omega)).mono ?_
    rintro e w' ⟨rfl, rfl⟩
    go_wp2_with fail
    refine (valid_zero _ _ _ _ _ _ _ _).mono ?_
    rintro e w1 ⟨rfl, rfl⟩
    go_wp2
    go_ret
    exact ⟨rfl, Below.refl _ _⟩
  · have hd3 : ((n0 : Int) != (n1 : Int)) = true := by rw [bne_iff_ne]; omega
    clear hx
    go_enter Try.func7, Try.ntmps7
    go_wp2_with fail
    refine hz.mono ?_
    rintro e w' ⟨⟨v, rfl, hv⟩, rfl⟩
    clear hv hz
    cases v
    all_goals
      go_wp2
      go_ret
      exact ⟨rfl, Below.refl _ _⟩

end Go.Proofs.Qxb6602322a
