import Derived.Test.Qxb6602322aG
namespace Go.Proofs.Qxb6602322a
open Go.RowKit

theorem Try.info4 : (Try.prog.info? 4).map (fun i => (i.zero, i.size, i.bytes)) = some (some (.bool false), 1, 1) := by kernel_rfl

/-- The marks of the run: the places nearer than d from g0 on. -/
def inR (N g0 d : Nat) : Nat → Value := fun k => .bool (decide (dst N g0 k < d))
theorem inR_step {w : World} {b t N g0 q : Nat} (hg0 : g0 < N) (hq : q < N) (h : w.rowIs b t N (inR N g0 (dst N g0 q))) : (w.setCell ⟨b, q, none⟩ (.bool true)).rowIs b t N (inR N g0 (dst N g0 q + 1)) :=
  (h.set q (.bool true)).congr fun j hj => by
    unfold inR
    by_cases e : j = q
    · subst e; simp
    · have : dst N g0 j ≠ dst N g0 q := by have a := dst_or N g0 q; have b := dst_or N g0 j; omega
      simp only [e, if_false]
      congr 1
      rw [decide_eq_decide]
      omega

/-- How many entries of the first k have ended empty. -/
def emp (g k : Nat) : Int := if g < k then 1 else 0
theorem emp_stay {g k : Nat} (h : k ≠ g) : emp g (k + 1) = emp g k := by unfold emp; split <;> split <;> omega
theorem size_drewN' (w : World) (n : Nat) : (w.drewN n).heap.size = w.heap.size := by simp
theorem homeAt {lg N : Nat} (hN : PowT lg N) (seed id : Int) (w : World) :
    Calls Try.prog 28 #[.int .i64 (64 - (lg : Int)), .int .u64 seed, .int .u64 id] w fun e w' => e = .returned (.int .i64 (hmP lg seed id : Int)) ∧ Below w.heap.size w w' := by
  have hl := hN.1
  have := zzhome_any (64 - (lg : Int)) seed id w (by omega) (by omega)
  rw [(hmP_lt hN seed id).2] at this
  exact this

set_option maxRecDepth 100000 in
set_option maxHeartbeats 2000000 in
theorem stay_pos (N b0 o0 c0 b1 o1 c1 : Nat) (I S : Nat → Int) (sh n seed id : Int) (w : World) (hpos : 0 < N) (hle : N ≤ 4096)
    (hI : ∀ i, i < N → w.cell? ⟨b0, o0 + i, none⟩ = some (.int .u64 (I i))) (hS : ∀ i, i < N → w.cell? ⟨b1, o1 + i, none⟩ = some (.int .i64 (S i)))
    (hb0 : b0 < w.heap.size) (hb1 : b1 < w.heap.size) :
    Calls Try.prog 8 #[.slice (some ⟨b0, o0, none⟩) N c0, .slice (some ⟨b1, o1, none⟩) N c1, .int .i64 sh, .int .i64 n, .int .u64 seed, .int .u64 id] w fun e w' => e = .returned (.bool true) ∧ Below w.heap.size w w' := by
  have hd1 : decide ((4096 : Int) < (N : Int)) = false := decide_eq_false (by omega)
  have hd2 : ((N : Int) != (N : Int)) = false := by simp
  go_enter Try.func8, Try.ntmps8
  go_wp2_with fail
  refine (zz27_yes _ _ _ _ _ _ _ _ _ _ _ hle hle).mono ?_
  rintro e w' ⟨rfl, rfl⟩
  go_wp2_with fail
  refine (valid_any N b0 o0 c0 b1 o1 c1 I S sh n seed w' hpos hle hI hS hb0 hb1).mono ?_
  rintro e w1 ⟨⟨v, rfl, hv⟩, hbel1⟩
  cases v
  · clear hv hI hS
    go_wp2
    go_ret
    exact ⟨rfl, hbel1⟩
  obtain ⟨lg, hN, rfl, hcN, rfl, hgood⟩ := validP_iff.1 (hv.1 rfl)
  have HG : Hid (Good N (hmP lg seed) I S) := hgood
  have hI1 : ∀ i, i < N → w1.cell? ⟨b0, o0 + i, none⟩ = some (.int .u64 (I i)) := fun i hi => (hbel1.cell (p := ⟨b0, o0 + i, none⟩) hb0).trans (hI i hi)
  have hS1 : ∀ i, i < N → w1.cell? ⟨b1, o1 + i, none⟩ = some (.int .i64 (S i)) := fun i hi => (hbel1.cell (p := ⟨b1, o1 + i, none⟩) hb1).trans (hS i hi)
  have hsz1 := hbel1.size
  have hlg := hN.1
  obtain ⟨e0, he0, hse0⟩ := cnt_empty hcN
  have HS0 : Hid (S e0 = 0) := hse0
  have hCl := cntFull_le S N
  obtain ⟨C, hC⟩ : ∃ C, cntFull S N = C := ⟨_, rfl⟩
  rw [hC] at hCl ⊢
  have HC : Hid (cntFull S N = C) := hC
  clear hI hS hv hcN hgood hse0 hC
  go_wp2_with fail
  obtain ⟨r, hr⟩ : ∃ r, findFrom N I S id N (hmP lg seed id) = r := ⟨_, rfl⟩
  have HR : Hid (findFrom N I S id N (hmP lg seed id) = r) := hr
  clear hr
  refine (find_hit hN hI1 hS1 (by omega) (by omega) HR.out).mono ?_
  rintro e w2 ⟨rfl, hbel2⟩
  by_cases hrn : r < 0
  · go_wp2
    go_ret
    exact ⟨rfl, hbel1.trans (hbel2.mono hsz1)⟩
  obtain ⟨g0, hg0e, _, hit⟩ := hit_of_find N _ (hmP_lt hN seed id).1 (Nat.le_refl _) (by rw [HR.out]; omega)
  rw [HR.out] at hg0e
  subst hg0e
  have hg0 := hit.1
  have HH : Hid (Hit N I S id (hmP lg seed id) g0) := hit
  clear hit hrn
  have hbel3 := hbel1.trans (hbel2.mono hsz1)
  have hI2 : ∀ i, i < N → w2.cell? ⟨b0, o0 + i, none⟩ = some (.int .u64 (I i)) := fun i hi => (hbel2.cell (p := ⟨b0, o0 + i, none⟩) (by show b0 < _; omega)).trans (hI1 i hi)
  have hS2 : ∀ i, i < N → w2.cell? ⟨b1, o1 + i, none⟩ = some (.int .i64 (S i)) := fun i hi => (hbel2.cell (p := ⟨b1, o1 + i, none⟩) (by show b1 < _; omega)).trans (hS1 i hi)
  have hsz2 := hbel3.size
  clear hI1 hS1 hbel1 hbel2 hsz1
  go_wp2_with fail
  refine (cloneU_any N b0 o0 c0 I w2 hle hI2 (by omega)).mono ?_
  rintro e w3 ⟨rfl, hrow1, hbel4⟩
  have hS3 : ∀ i, i < N → w3.cell? ⟨b1, o1 + i, none⟩ = some (.int .i64 (S i)) := fun i hi => (hbel4.cell (p := ⟨b1, o1 + i, none⟩) (by show b1 < _; omega)).trans (hS2 i hi)
  have hsz3 := hbel4.size
  have hbel5 := hbel3.trans (hbel4.mono hsz2)
  clear hI2 hS2 hbel3 hbel4
  go_wp2_with fail
  refine (cloneI_any N b1 o1 c1 S w3 hle hS3 (by omega)).mono ?_
  rintro e w4 ⟨rfl, hrow2, hbel6⟩
  have hrow3 := rowIs_below hrow1 hbel6
  have hsz4 := hbel6.size
  have hbel7 := hbel5.trans (hbel6.mono (by omega))
  have hl1 := hrow3.lt
  have hl2 := hrow2.lt
  clear hS3 hbel5 hbel6 hrow1
  go_wp2_with fail
  refine (find_hit hN (rows_of hrow3) (rows_of hrow2) hl1 hl2 HR.out).mono ?_
  rintro e w5 ⟨rfl, hbel8⟩
  have hrow4 := rowIs_below hrow3 hbel8
  have hrow5 := rowIs_below hrow2 hbel8
  have hsz5 := hbel8.size
  have hbel9 := hbel7.trans (hbel8.mono (by omega))
  clear hrow3 hrow2 hbel7 hbel8
  go_wp2_with fail
  refine (zzremove_any lg N _ 0 _ _ 0 _ g0 e0 (C : Int) seed id I S w5 hN (rows_of hrow4) (rows_of hrow5) hrow4.lt hrow5.lt (by omega) (by omega) HG.out HH.out he0 HS0.out).mono ?_
  rintro e w6 ⟨R, RS, g, e1, bi, bs, rfl, hdone, hrow6, hrow7, hbel10⟩
  have hrow8 := rowIs_below hrow4 hbel10
  have hrow9 := rowIs_below hrow5 hbel10
  have hbel11 := hbel9.trans (hbel10.mono (by omega))
  have HD : Hid (Done N (hmP lg seed) I S g0 R RS g e1) := hdone
  clear hrow4 hrow5 hbel9 hbel10 hdone
  have hbn3 : ((N : Int) != (N : Int)) = false := by simp
  have hmk := fun w => run_make_row' (P := Try.prog) 47 4 (.bool false) 1 Try.underlying47 Try.info4 rfl .i64 .i64 N (by omega) (by omega) w
  have hrs1 := HD.out.e_lt
  have hgl := HD.out.g_lt
  go_wp2_with fail
  have hb6 : Below w6.heap.size w6 (w6.alloc (.cells (madeCells #[.bool false] N) 4)) := (Below.refl _ _).alloc (Nat.le_refl _) _
  clear hmk
  go_loopw [21, 22] (fun pv sv wr => ∃ q : Nat, q < N ∧ pv = .int .i64 q ∧ sv = .int .i64 (dst N g0 q : Nat) ∧ dst N g0 q ≤ dst N g0 e1 ∧ wr.rowIs w6.heap.size 4 N (inR N g0 (dst N g0 q)) ∧ Below w6.heap.size w6 wr) (fun _ sv _ => N - (intOf sv).toNat)
  case atStart =>
    refine ⟨g0, hg0, rfl, by rw [dst_self]; rfl, by rw [dst_self]; omega, ?_, hb6⟩
    exact (World.rowIs_made w6 (.bool false) N 4).congr fun _ _ => by simp [inR, dst_self]
  case round =>
    obtain ⟨q, hq, rfl, rfl, hqe, hrr, hbw⟩ := hrel
    have hr1 := rowIs_below hrow6 hbw
    have hr2 := rowIs_below hrow7 hbw
    have hr3 := rowIs_below hrow8 hbw
    have hr4 := rowIs_below hrow9 hbw
    have hdN := dst_lt hg0 hq
    clear hrow6 hrow7 hrow8 hrow9 hb6
    have hcS := hr4.cell hq
    by_cases hqe' : dst N g0 q < dst N g0 e1
    · have hsq := HD.out.run q hq hqe'
      have hbs : (S q == 0) = false := beq_eq_false_iff_ne.2 hsq
      have hdn : dst N g0 (nxt N q) = dst N g0 q + 1 := by
        have a := dst_or N g0 q; have b := dst_or N g0 e1; have c := dst_or N g0 (nxt N q); have d := nxt_or N q; omega
      have HDN : Hid (dst N g0 (nxt N q) = dst N g0 q + 1) := hdn
      have hcR := hrr.cell hq
      have hfR := hrr.frozen q
      have hst := inR_step hg0 hq hrr
      clear hsq hdn hr1 hr2 hr3 hr4 hrr
      go_wp2
      go_roundw
      case rel => exact ⟨nxt N q, nxt_lt hq, by rw [and_mask hN, ← nxt_mod hq]; simp, by rw [HDN.out]; go_num, by rw [HDN.out]; omega, by rw [HDN.out]; exact hst, hbw.setCell (p := ⟨w6.heap.size, q, none⟩) (Nat.le_refl _) _⟩
      case measure => simp [intOf]; omega
    · obtain rfl : q = e1 := by have a := dst_or N g0 q; have b := dst_or N g0 e1; omega
      have hbs : (S q == 0) = true := beq_iff_eq.2 HD.out.emp
      clear hqe hqe'
      have hsw6 := hbel11.size
      have hswr := hbw.size
      have hbel16 := hbel11.trans (hbw.mono (by omega))
      clear hbw hbel11
      go_wp2
      clear hcS
      obtain ⟨wa, rfl⟩ : ∃ wa : World, wa = wr := ⟨_, rfl⟩
      go_loopw [23, 24] (fun ev kv wr => ∃ k : Nat, k ≤ N ∧ kv = .int .i64 k ∧ ev = .int .i64 (emp g k) ∧ Below wa.heap.size wa wr) (fun _ kv _ => N - (intOf kv).toNat)
      case atStart => exact ⟨0, Nat.zero_le _, rfl, by simp [emp], Below.refl _ _⟩
      case round =>
        obtain ⟨k, hk, rfl, rfl, hbw⟩ := hrel
        have hsa := hbw.size
        have hA := rowIs_below hr1 hbw
        have hB := rowIs_below hr2 hbw
        have hC := rowIs_below hr3 hbw
        have hD := rowIs_below hr4 hbw
        have hE := rowIs_below hrr hbw
        clear hr1 hr2 hr3 hr4 hrr
        by_cases hlt : k < N
        · have hcA := hA.cell hlt
          have hcB := hB.cell hlt
          have hcC := hC.cell hlt
          have hcD := hD.cell hlt
          have hcE := hE.cell hlt
          simp only [inR] at hcE
          by_cases hin : dst N g0 k < dst N g0 q
          · have hbin : decide (dst N g0 k < dst N g0 q) = true := decide_eq_true hin
            rw [hbin] at hcE
            by_cases hkg : k = g
            · subst hkg
              obtain ⟨hR0, hRS0⟩ := HD.out.gap
              have hb1' : (RS k == 0) = true := beq_iff_eq.2 hRS0
              have hb2' : (R k != 0) = false := by simp [hR0]
              have hem : emp k k = 0 := by simp [emp]
              rw [hem]
              have HEM : Hid (emp k (k + 1) = 1) := by show _ = _; simp [emp]
              clear hR0 hRS0 hA hB hC hD hE hbin hin hem
              go_wp2
              go_roundw
              case rel => exact ⟨k + 1, by omega, by go_num, by rw [HEM.out], hbw⟩
              case measure => simp [intOf]; omega
            · obtain ⟨f, hf, hfg, hfe, hRf, hRSf, hdf⟩ := HD.out.bwd k hlt hkg hin
              have hsf := HD.out.run f hf hfe
              have hRSk : RS k ≠ 0 := by rw [hRSf]; exact hsf
              have hfind : findFrom N I S (R k) N (hmP lg seed (R k)) = (f : Int) := by
                rw [hRf]; exact (find_iff (hmP_lt hN seed _).1).2 (HG.out f hf hsf)
              have hF := find_hit (c0 := N) (c1 := N) hN (rows_of hC) (rows_of hD) hC.lt hD.lt hfind
              have hb1' : (RS k == 0) = false := beq_eq_false_iff_ne.2 hRSk
              have hb2' : (RS k != S f) = false := by simp [hRSf]
              have hb3' : decide ((f : Int) < 0) = false := decide_eq_false (by omega)
              have hb4' : ((f : Int) == (g0 : Int)) = false := beq_eq_false_iff_ne.2 (by omega)
              have HEM : Hid (emp g (k + 1) = emp g k) := emp_stay hkg
              have hhl := (hmP_lt hN seed (R k)).1
              have hho := homeAt hN seed (R k)
              have hdd : decide (bits BinOp.and IntKind.i64 ((f : Int) - (hmP lg seed (R k) : Int)) ((N : Int) - 1) < bits BinOp.and IntKind.i64 ((k : Int) - (hmP lg seed (R k) : Int)) ((N : Int) - 1)) = false := by
                rw [and_mask hN, and_mask hN, dst_int hhl hlt, dst_int hhl hf]; exact decide_eq_false (by omega)
              have hbfe : decide (dst N g0 f < dst N g0 q) = true := decide_eq_true hfe
              clear hsf hfind hRSk hRSf hRf hdf hbin hin
              go_wp2_with fail
              refine hF.mono ?_
              rintro e w9 ⟨rfl, hbel17⟩
              have hB2 := rowIs_below hB hbel17
              have hD2 := rowIs_below hD hbel17
              have hE2 := rowIs_below hE hbel17
              have hA2 := rowIs_below hA hbel17
              have hc1 := hB2.cell hlt
              have hc2 := hD2.cell hf
              have hc3 := hE2.cell hf
              have hc4 := hA2.cell hlt
              simp only [inR] at hc3
              rw [hbfe] at hc3
              have hs9 := hbel17.size
              clear hA hB hC hD hE hA2 hB2 hD2 hE2 hcA hcB hcC hcD hcE hF hbfe
              go_wp2
              go_quiet (fail)
              go_wp2_with fail
              refine (hho _).mono ?_
              rintro e w10 ⟨rfl, hbel18⟩
              go_wp2
              go_roundw
              case rel => exact ⟨k + 1, by omega, by go_num, by rw [HEM.out], (below_drewN (hbw.trans (hbel17.mono hsa)) nq).trans (hbel18.mono (by rw [size_drewN']; omega))⟩
              case measure => simp [intOf]; omega
          · have hbin : decide (dst N g0 k < dst N g0 q) = false := decide_eq_false hin
            rw [hbin] at hcE
            obtain ⟨h1, h2⟩ := HD.out.rest k hlt (by omega)
            have hb1' : (R k != I k) = false := by simp [h1]
            have hb2' : (RS k != S k) = false := by simp [h2]
            have hkg : k ≠ g := by
              intro e
              have := HD.out.ge
              rw [← e] at this
              omega
            have HEM : Hid (emp g (k + 1) = emp g k) := emp_stay hkg
            clear h1 h2 hA hB hC hD hE hbin hin hkg
            go_wp2
            go_quiet (fail)
            go_wp2
            go_roundw
            case rel => exact ⟨k + 1, by omega, by go_num, by rw [HEM.out], below_drewN hbw nq⟩
            case measure => simp [intOf]; omega
        · obtain rfl : k = N := by omega
          have hem : emp g k = 1 := by simp [emp, hgl]
          rw [hem]
          clear hA hB hC hD hE hem
          go_wp2
          go_ret
          exact ⟨rfl, hbel16.trans (hbw.mono (by omega))⟩

set_option maxRecDepth 100000 in
set_option maxHeartbeats 1000000 in
/-- Outside the law's range the answer is true at once. -/
theorem stay_out (a0 a1 : Option Addr) (n0 c0 n1 c1 : Nat) (sh n seed id : Int) (w : World) (h0 : n0 ≤ maxLen) (h1 : n1 ≤ maxLen) (hx : ¬ (0 < n0 ∧ n0 ≤ 4096 ∧ n0 = n1)) :
    Calls Try.prog 8 #[.slice a0 n0 c0, .slice a1 n1 c1, .int .i64 sh, .int .i64 n, .int .u64 seed, .int .u64 id] w fun e w' => e = .returned (.bool true) ∧ Below w.heap.size w w' := by
  have hz := zz27_any a0 a1 n0 c0 n1 c1 sh n seed id w h0 h1
  by_cases hp : 4096 < n0
  · have hd1 : decide ((4096 : Int) < (n0 : Int)) = true := decide_eq_true (by omega)
    go_enter Try.func8, Try.ntmps8
    go_wp2_with fail
    refine hz.mono ?_
    rintro e w' ⟨⟨v, rfl, hv⟩, rfl⟩
    clear hv hz
    cases v
    all_goals
      go_wp2
      go_ret
      exact ⟨rfl, Below.refl _ _⟩
  have hd1 : decide ((4096 : Int) < (n0 : Int)) = false := decide_eq_false (by omega)
  by_cases hp1 : 4096 < n1
  · have hd2 : decide ((4096 : Int) < (n1 : Int)) = true := decide_eq_true (by omega)
    go_enter Try.func8, Try.ntmps8
    go_wp2_with fail
    refine hz.mono ?_
    rintro e w' ⟨⟨v, rfl, hv⟩, rfl⟩
    clear hv hz
    cases v
    all_goals
      go_wp2
      go_ret
      exact ⟨rfl, Below.refl _ _⟩
  have hd2 : decide ((4096 : Int) < (n1 : Int)) = false := decide_eq_false (by omega)
  by_cases hp2 : n0 = n1
  · obtain rfl : n0 = 0 := by omega
    subst hp2
    clear hx
    go_enter Try.func8, Try.ntmps8
    go_wp2_with fail
    refine (zz27_yes _ _ _ _ _ _ _ _ _ _ _ (by omega) (by omega)).mono ?_
    rintro e w' ⟨rfl, rfl⟩
    go_wp2_with fail
    refine (valid_zero _ _ _ _ _ _ _ _).mono ?_
    rintro e w1 ⟨rfl, rfl⟩
    go_wp2
    go_ret
    exact ⟨rfl, Below.refl _ _⟩
  · have hd3 : ((n0 : Int) != (n1 : Int)) = true := by rw [bne_iff_ne]; omega
    clear hx
    go_enter Try.func8, Try.ntmps8
    go_wp2_with fail
    refine hz.mono ?_
    rintro e w' ⟨⟨v, rfl, hv⟩, rfl⟩
    clear hv hz
    cases v
    all_goals
      go_wp2
      go_ret
      exact ⟨rfl, Below.refl _ _⟩

end Go.Proofs.Qxb6602322a
