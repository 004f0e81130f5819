import Derived.Test.Qxb6602369aV
import Derived.Deep.DeepCutAuto
namespace Go.Proofs.Qxb6602369a
open Go.RowKit

theorem TM.drewN {B n : Nat} {w0 w : World} {r l : Nat → Nat} {os cy : Nat → Bool} {sv : Value} {z : Nat} {st : Nat → Nat} {cnt : Nat} (h : TM B n w0 w r l os cy sv z st cnt) (q : Nat) : TM B n w0 (w.drewN q) r l os cy sv z st cnt :=
  ⟨h.mr, h.vr, h.ml, h.vl, h.mo, h.vo, h.mc, h.vs, h.vc, h.own, below_drewN h.bel q⟩

set_option maxRecDepth 100000 in
set_option maxHeartbeats 4000000 in
theorem onCycle_any (lo n c : Nat) (a : Option Addr) (ns : Nat → List Nat) (w : World) (hG : RdG lo w a n ns) (hn : n ≤ 20000) (hrows : ∀ v, v < n → ∀ u, u ∈ ns v → u < n) (hdeg : ∀ v, v < n → (ns v).length ≤ 1000000) :
    Calls Try.prog 29 #[.slice a n c] w fun e w' => RetCy e w w' n ns ∧ Below w.heap.size w w' := by
  have hmk := fun w => run_make_row' (P := Try.prog) 28 3 (.int .i64 0) 8 Try.underlying28 Try.info3 rfl .i64 .i64 n (by omega) (by omega) w
  have hmkb := fun w => run_make_row' (P := Try.prog) 26 4 (.bool false) 1 Try.underlying26 Try.info4 rfl .i64 .i64 n (by omega) (by omega) w
  go_enter Try.func29, Try.ntmps29
  go_wp2
  have e2 : w.heap.size + 1 + 1 = w.heap.size + 2 := rfl
  have e3 : w.heap.size + 2 + 1 = w.heap.size + 3 := rfl
  have e4 : w.heap.size + 3 + 1 = w.heap.size + 4 := rfl
  have e5 : w.heap.size + 4 + 1 = w.heap.size + 5 := rfl
  have e6 : w.heap.size + 5 + 1 = w.heap.size + 6 := rfl
  have e7 : w.heap.size + 6 + 1 = w.heap.size + 7 := rfl
  have e8 : w.heap.size + 7 + 1 = w.heap.size + 8 := rfl
  simp only [e2, e3, e4, e5, e6, e7, e8]
  have T0 := TM.init w n
  generalize (((((((((w.alloc (.cells (madeCells #[.int .i64 0] n) 3)).alloc (.cells #[.slice (some ⟨w.heap.size, 0, none⟩) n n] 28)).alloc (.cells (madeCells #[.int .i64 0] n) 3)).alloc
    (.cells #[.slice (some ⟨w.heap.size + 2, 0, none⟩) n n] 28)).alloc (.cells (madeCells #[.bool false] n) 4)).alloc (.cells #[.slice (some ⟨w.heap.size + 4, 0, none⟩) n n] 26)).alloc (.cells (madeCells #[.bool false] n) 4)).alloc (.cells #[.slice none 0 0] 28)).alloc (.cells #[.int .i64 0] 3)) = W9 at T0 ⊢
  clear hmk hmkb e2 e3 e4 e5 e6 e7 e8
  go_loopw [34] (fun i wr => ∃ k : Nat, k ≤ n ∧ i = .int .i64 (k : Nat) ∧ OutR w wr n ns k) (fun i _ => n - (intOf i).toNat)
  case atStart => exact ⟨0, Nat.zero_le _, rfl, _, _, _, _, _, _, fun _ => 0, fun _ => 0, _, T0, Tj.start hrows (fun _ _ => rfl), fun v hv => absurd hv (by omega), many_zero n, fun _ => rfl⟩
  case round =>
    clear T0
    obtain ⟨wa, rfl⟩ : ∃ wa : World, wa = wr := ⟨_, rfl⟩
    obtain ⟨k, hk, rfl, r, l, os, cy, sv, st, wn, wx, cnt, T, J, hvis, hcnt, hos⟩ := hrel
    by_cases hkn : k < n
    · have c1 := T.vr.cell (i := 0) (by omega)
      have cr := T.mr.cell hkn
      by_cases hrk : 0 < r k
      · have hd : decide (((r k : Nat) : Int) > 0) = true := decide_eq_true (by omega)
        go_wp2
        go_roundw
        case rel => exact ⟨k + 1, by omega, by go_num, r, l, os, cy, sv, st, wn, wx, cnt, T, J, fun v hv => by
            by_cases e : v = k
            · rw [e]; exact hrk
            · exact hvis v (by omega), hcnt, hos⟩
        case measure => simp [intOf]; omega
      · have hrk0 : r k = 0 := by omega
        have hcn : cnt ≤ n := by rw [← hcnt]; exact many_le _ _
        have hd : decide (((r k : Nat) : Int) > 0) = false := decide_eq_false (by omega)
        have hF := enter_any T k hkn (Nat.zero_le _) (by omega)
        have HS : Hid (∀ w1, ∀ sv1, TM w.heap.size n w w1 (upd r k (cnt + 1)) (upd l k (cnt + 1)) (upd os k true) cy sv1 (0 + 1) (upd st 0 k) (cnt + 1) → InR' w (w1.alloc (.cells #[.int .i64 (k : Nat), .int .i64 0] 66)) n ns k (.slice (some ⟨w1.heap.size, 0, none⟩) 1 1) (msr n ns (upd r k (cnt + 1)) (fun _ => k) (fun _ => 0) 1)) := fun w1 sv1 T1 =>
          InR.first T1 J hkn hrk0 hvis hcnt hos
        clear T J hcnt hos
        go_wp2_with fail
        refine hF.mono ?_
        clear hF c1 cr hd
        rintro e w1 ⟨rfl, sv1, T1, ho1⟩
        have hI := HS.out w1 sv1 T1
        clear HS T1 ho1 sv1 hrk hrk0 hvis
        go_wp2
        generalize w1.alloc (.cells #[.int .i64 (k : Nat), .int .i64 0] 66) = w2 at hI ⊢
        generalize msr n ns (upd r k (cnt + 1)) (fun _ => k) (fun _ => 0) 1 = n0 at hI
        clear r l os cy sv st wn wx hcn cnt
        go_loopg [11] n0 (fun g wv wr => InR' w wr n ns k wv g)
        case atStart => exact hI
        case round =>
          clear hI
          obtain ⟨wb, rfl⟩ : ∃ wb : World, wb = wr := ⟨_, rfl⟩
          obtain ⟨h, r, l, os, cy, sv, z, st, wn, wx, cnt, I⟩ := hrel
          by_cases hh : h = 0
          · subst hh
            have HO : Hid (OutR w wb n ns (k + 1)) := I.over
            obtain ⟨a', c', rfl⟩ := I.flat
            clear I
            go_wp2
            go_roundw
            case rel => exact ⟨k + 1, by omega, by go_num, HO.out⟩
            case measure => simp [intOf]; omega
          obtain ⟨q, rfl⟩ : ∃ q, h = q + 1 := ⟨h - 1, by omega⟩
          clear hh
          obtain ⟨g, cap, rfl, hg9, hgl, hcap, hcm⟩ := I.own.form (by omega)
          have hbd := I.bounds
          have hq9 : q + 1 ≤ 20000 := by omega
          rcases hG with h0 | ⟨b, o, rfl, hlo, hb, hc⟩
          · omega
          have htn := (I.tj.in_lt (I.tj.w_in q (by omega))).1
          obtain ⟨ai, ci, g1, r1⟩ := hc (wn q) htn
          have ct := I.own.cell (j := q * 2) (by omega)
          have cx := I.own.cell (j := q * 2 + 1) (by omega)
          have fx := I.own.frozen (q * 2 + 1)
          rw [stepC_even] at ct
          rw [stepC_odd] at cx
          have g1' := (I.tm.bel.cell (p := ⟨b, o + wn q, none⟩) hb).trans g1
          have hdg := hdeg _ htn
          have hwx := I.tj.w_nx q (by omega)
          clear hc g1
          obtain ⟨t, ht⟩ : ∃ t, wn q = t := ⟨_, rfl⟩
          obtain ⟨x, hx⟩ : ∃ x, wx q = x := ⟨_, rfl⟩
          obtain ⟨D, hD⟩ : ∃ D, (ns t).length = D := ⟨_, rfl⟩
          rw [ht] at ct g1' r1 htn hdg hwx
          rw [hx] at cx hwx
          rw [hD] at g1' hdg hwx
          have HT : Hid (wn q = t) := ht
          have HXX : Hid (wx q = x) := hx
          have HD : Hid ((ns t).length = D) := hD
          have HI : Hid (InR w wb n ns k (.slice (some ⟨g, 0, none⟩) (q + 1) cap) (q + 1) gk r l os cy sv z st wn wx cnt) := I
          clear I ht hx hD
          by_cases hxd : x < D
          · have hd : decide ((x : Int) < (D : Int)) = true := decide_eq_true (by omega)
            obtain ⟨m, hm⟩ : ∃ m, (ns t)[x]? = some m := ⟨(ns t)[x]'(by rw [HD.out]; exact hxd), List.getElem?_eq_getElem _⟩
            have r1' := r1
            rw [← HD.out] at g1'
            obtain ⟨b2, o2, rfl, hlo2, hb2, hc2⟩ := r1'.at hm
            rw [HD.out] at g1'
            have c2 := (HI.out.tm.bel.cell (p := ⟨b2, o2 + x, none⟩) hb2).trans hc2
            have HM : Hid ((ns t)[x]? = some m) := hm
            clear hm r1' r1 hc2
            go_wp2
            go_quiet (fail)
            obtain ⟨nq1, rfl⟩ : ∃ j, j = nq := ⟨_, rfl⟩
            go_wp2
            go_quiet (fail)
            have I3 := (HI.out.drewN nq1).drewN nq
            have cx3 : ((wb.drewN nq1).drewN nq).cell? ⟨g, q * 2 + 1, none⟩ = some (.int .i64 (x : Nat)) := cx
            have ct3 : ((wb.drewN nq1).drewN nq).cell? ⟨g, q * 2, none⟩ = some (.int .i64 (t : Nat)) := ct
            have fx3 : ((wb.drewN nq1).drewN nq).frozen? ⟨g, q * 2 + 1, none⟩ = false := fx
            generalize (wb.drewN nq1).drewN nq = wc at I3 cx3 ct3 fx3 ⊢
            clear HI ct cx fx g1' c2 hd
            obtain ⟨x1, hx1⟩ : ∃ x1 : Nat, x1 = x + 1 := ⟨_, rfl⟩
            have hxi : (x : Int) + 1 = (x1 : Int) := by omega
            obtain ⟨T4, O4⟩ := I3.next x1
            have hmn : m < n := hrows t htn m (List.mem_of_getElem? HM.out)
            have c1 := T4.vr.cell (i := 0) (by omega)
            have cr := T4.mr.cell hmn
            have HX1 : Hid (x1 = wx q + 1) := by show _ = _; rw [HXX.out]; exact hx1
            have HM2 : Hid ((ns (wn q))[wx q]? = some m) := by show _ = _; rw [HT.out, HXX.out]; exact HM.out
            clear hx1
            by_cases hrm : r m = 0
            · have hF := enter_any T4 m hmn (by omega) (by omega)
              go_wp2_with fail
              refine hF.mono ?_
              clear hF c1 cr ct3 cx3 fx3
              rintro e w5 ⟨rfl, sv5, T5, ho5⟩
              have O5 : Own w5 (w.heap.size + 9) 66 2 (.slice (some ⟨g, 0, none⟩) (q + 1) cap) (q + 1) (stepC wn (upd wx q x1)) := O4.of_block (fun j hj => ho5.2 j (O4.lt j hj).1 (O4.lt j hj).2 (fun e => T4.own.apart O4 (by omega) j e.symm hj))
              have hone := two_cell w5 (.int .i64 (m : Nat)) (.int .i64 0) 66
              have hownw : (w5.alloc (.cells #[.int .i64 (m : Nat), .int .i64 0] 66)).ownsRow (w.heap.size + 9) 66 2 (.slice (some ⟨g, 0, none⟩) (q + 1) cap) (q + 1) ((List.range ((q + 1) * 2)).map (stepC wn (upd wx q x1))) := World.ownsRow.alloc O5 _
              have T5a := T5.alloc (.cells #[.int .i64 (m : Nat), .int .i64 0] 66)
              have hal := T5a.size
              go_wp2_with (at_builtin; refine wpList_append_grew _ rfl _ _ 68 rfl (w.heap.size + 9) 66 _ 2 16 Try.underlying68 Try.info66 rfl (by omega) _ _ _ rfl hownw _ _ _ [.int .i64 (m : Nat), .int .i64 0] rfl rfl hone (by simp [Value.oneCell']) (by unfold maxLen; omega) (by omega) hal ?_)
              intro wv6 w6 hown6 hgr6
              have O6 := Own.stepSnoc hown6
              have T6 := T5a.keep (T5a.bel.grown hgr6.grown (by omega) (fun j hj => by have := (O5.lt j hj).1; omega)) (fun j h1 h2 => hgr6.grown.block j (by omega) (fun e => by have := (O5.lt j e.symm).1; omega)) (fun j hj => hgr6.grown.block j (T5a.own.lt j hj).2 (fun e => T5a.own.apart hownw (by omega) j hj e.symm))
              have HN : Hid (∃ g', g' < gk ∧ InR' w w6 n ns k wv6 g') := I3.enterStep HM2.out hrm T6 (by rw [← HX1.out]; exact O6)
              obtain ⟨g6, cap6, rfl, _⟩ := O6.form (by omega)
              clear O6 T6 hgr6 hown6 hal T5a hownw hone O5 T5 ho5 T4 O4 I3
              obtain ⟨g', hg', HR⟩ := HN.out
              clear HN
              go_wp2
              go_roundg g'
              case rel => exact HR
              case measure => exact hg'
            · have hd : (((r m : Nat) : Int) == 0) = false := beq_eq_false_iff_ne.2 (by omega)
              have c5 := T4.vo.cell (i := 0) (by omega)
              have co := T4.mo.cell hmn
              by_cases hom : os m = true
              · have ct4 := O4.cell (j := q * 2) (by omega)
                rw [stepC_even, HT.out] at ct4
                have c3 := T4.vl.cell (i := 0) (by omega)
                have cl := T4.ml.cell htn
                have fl := T4.ml.frozen t
                have hmin : ((min (l t) (r m) : Nat) : Int) = min ((l t : Nat) : Int) ((r m : Nat) : Int) := by omega
                have T6 := (T4.setL t (min (l t) (r m))).drew
                rw [hmin] at T6
                have O6 : Own ((wc.setCell ⟨g, q * 2 + 1, none⟩ (.int .i64 (x1 : Nat))).setCell ⟨w.heap.size + 2, t, none⟩ (.int .i64 (min ((l t : Nat) : Int) ((r m : Nat) : Int)))).drew (w.heap.size + 9) 66 2 (.slice (some ⟨g, 0, none⟩) (q + 1) cap) (q + 1) (stepC wn (upd wx q x1)) :=
                  O4.of_block (fun j hj => Below.heap_setCell _ _ _ _ (by have := (O4.lt j hj).1; simp; omega))
                have HN : Hid (∃ g', g' < gk ∧ InR' w ((wc.setCell ⟨g, q * 2 + 1, none⟩ (.int .i64 (x1 : Nat))).setCell ⟨w.heap.size + 2, t, none⟩ (.int .i64 (min ((l t : Nat) : Int) ((r m : Nat) : Int)))).drew n ns k (.slice (some ⟨g, 0, none⟩) (q + 1) cap) g') :=
                  I3.passStep HM2.out (by omega) T6 (by rw [← HX1.out]; exact O6) (fun v hv => upd_other _ _ _ (by rw [← HT.out]; exact hv)) (.inl ⟨hom, by rw [HT.out, upd_same]⟩)
                obtain ⟨g', hg', HR⟩ := HN.out
                clear HN I3 O4 T4 T6 O6 hmin
                go_wp2
                go_region
                go_wp2
                go_roundg g'
                case rel => exact HR
                case measure => exact hg'
              · have hom' : os m = false := by cases h : os m with
                  | false => rfl
                  | true => exact absurd h hom
                have HN : Hid (∃ g', g' < gk ∧ InR' w (wc.setCell ⟨g, q * 2 + 1, none⟩ (.int .i64 (x1 : Nat))) n ns k (.slice (some ⟨g, 0, none⟩) (q + 1) cap) g') :=
                  I3.passStep HM2.out (by omega) T4 (by rw [← HX1.out]; exact O4) (fun _ _ => rfl) (.inr ⟨hom', rfl⟩)
                obtain ⟨g', hg', HR⟩ := HN.out
                clear HN I3 hom O4 T4
                go_wp2
                go_roundg g'
                case rel => exact HR
                case measure => exact hg'
          · have hxD : x = D := by omega
            have hd : decide ((x : Int) < (D : Int)) = false := decide_eq_false (by omega)
            go_wp2
            go_quiet (fail)
            have I3 := HI.out.drewN nq
            have ct3 : (wb.drewN nq).cell? ⟨g, q * 2, none⟩ = some (.int .i64 (t : Nat)) := ct
            generalize wb.drewN nq = wd at I3 ct3 ⊢
            clear HI ct cx fx g1' hd r1
            have c3 := I3.tm.vl.cell (i := 0) (by omega)
            have clt := I3.tm.ml.cell htn
            go_upto_if 133 with fail
            go_cut [15] (fun _ wo => ∃ l', TM w.heap.size n w wo r l' os cy sv z st cnt ∧ Own wo (w.heap.size + 9) 66 2 (.slice (some ⟨g, 0, none⟩) q cap) q (stepC wn wx) ∧ Hid ((∀ v, v ≠ wn (q - 1) → l' v = l v) ∧ (0 < q → l' (wn (q - 1)) = min (l (wn (q - 1))) (l (wn q))) ∧ l' t = l t))
            case first =>
              by_cases hq : q = 0
              · subst hq
                go_wp2
                go_meet
                exact ⟨l, I3.tm, I3.own.cut (by omega), (fun _ _ => rfl), (fun h => by omega), rfl⟩
              · obtain ⟨p, rfl⟩ : ∃ p, q = p + 1 := ⟨q - 1, by omega⟩
                have hpn := (I3.tj.in_lt (I3.tj.w_in p (by omega))).1
                have cp := I3.own.cell (j := p * 2) (by omega)
                rw [stepC_even] at cp
                have clp := I3.tm.ml.cell hpn
                have flp := I3.tm.ml.frozen (wn p)
                have hpt : t ≠ wn p := fun e => by
                  have := I3.tj.w_srt p (p + 1) (by omega) (by omega)
                  rw [HT.out, e] at this
                  omega
                obtain ⟨pp, hpp⟩ : ∃ pp, wn p = pp := ⟨_, rfl⟩
                rw [hpp] at cp clp flp hpn hpt
                have HP : Hid (wn p = pp) := hpp
                have HPT : Hid (t ≠ pp) := hpt
                have hmin : ((min (l pp) (l t) : Nat) : Int) = min ((l pp : Nat) : Int) ((l t : Nat) : Int) := by omega
                have T6 := (I3.tm.setL pp (min (l pp) (l t))).drew
                rw [hmin] at T6
                clear hpp hmin hq hpt
                go_wp2
                go_region
                go_wp2
                go_meet
                refine ⟨_, T6, (I3.own.cut (by omega)).of_block (fun j hj => Below.heap_setCell _ _ _ _ (by have := (I3.own.lt j hj).1; simp; omega)), fun v hv => upd_other _ _ _ (by rw [← HP.out]; exact hv), fun _ => ?_, upd_other _ _ _ HPT.out⟩
                rw [Nat.add_sub_cancel, HP.out, HT.out, upd_same]
            case rest =>
              obtain ⟨l', T5, O5, HL⟩ := hcut
              have hlt' := HL.out.2.2
              have c3' := T5.vl.cell (i := 0) (by omega)
              have cl' := T5.ml.cell htn
              have c1' := T5.vr.cell (i := 0) (by omega)
              have cr' := T5.mr.cell htn
              rw [hlt'] at cl'
              have HXL : Hid (wx q = (ns (wn q)).length) := by show _ = _; rw [HT.out, HXX.out, HD.out]; exact hxD
              clear c3 clt ct3 hlt'
              by_cases heq : l t = r t
              · have hd : (((l t : Nat) : Int) == ((r t : Nat) : Int)) = true := beq_iff_eq.2 (by omega)
                go_wp2
                go_quiet (fail)
                have T6 := T5.drewN nq
                have O6 : Own (wc.drewN nq) (w.heap.size + 9) 66 2 (.slice (some ⟨g, 0, none⟩) q cap) q (stepC wn wx) := O5
                generalize wc.drewN nq = we at T6 O6 ⊢
                clear T5 O5 c3' cl' c1' cr' hd
                obtain ⟨j0, hj0, hjt⟩ := I3.tj.w_in q (by omega)
                rw [HT.out] at hjt
                obtain ⟨zz, rfl⟩ : ∃ zz, z = zz + 1 := ⟨z - 1, by omega⟩
                obtain ⟨gs, caps, rfl, hs9, hsl, hscap, hscm⟩ := T6.own.form (by omega)
                have c7 := T6.vs.cell (i := 0) (by omega)
                have hsn := I3.tj.s_lt
                have HI3 : Hid (InR w wd n ns k (.slice (some ⟨g, 0, none⟩) (q + 1) cap) (q + 1) gk r l os cy (.slice (some ⟨gs, 0, none⟩) (zz + 1) caps) (zz + 1) st wn wx cnt) := I3
                have HSN : Hid (∀ j, j < zz + 1 → st j < n) := hsn
                clear I3 hsn
                go_wp2
                go_loop [16] (fun v => ∃ p : Nat, p < zz + 1 ∧ v = .int .i64 (p : Nat) ∧ Hid (∀ j, p < j → j < zz + 1 → st j ≠ t)) (fun v => (intOf v).toNat)
                case atStart => exact ⟨zz, by omega, by go_num, fun j h1 h2 => absurd h1 (by omega)⟩
                case round =>
                  obtain ⟨p, hp, rfl, HP⟩ := hrel
                  have cs := T6.own.cell (j := p) (by omega)
                  by_cases hst : st p = t
                  · have hne : ¬ caps = p := by omega
                    obtain ⟨L, rfl⟩ : ∃ L, zz = p + L := ⟨zz - p, by omega⟩
                    have hsub : p + L + 1 - p = L + 1 := by omega
                    obtain ⟨bb, hbb⟩ : ∃ bb, decide (1 < p + L + 1 - p) = bb := ⟨_, rfl⟩
                    have hbi : decide ((1 : Int) < (p : Int) + (L : Int) + 1 - (p : Int)) = bb := by rw [← hbb]; congr 1; simp; omega
                    have HBB : Hid (decide (1 < p + L + 1 - p) = bb) := hbb
                    have HST : Hid (st p = t) := hst
                    clear hbb HP
                    go_wp2
                    clear c7 cs
                    go_loopw [177] (fun i wq => ∃ e : Nat, e ≤ L + 1 ∧ i = .int .i64 (e : Nat) ∧ TM w.heap.size n w wq r l' (mark os st p false e) (mark cy st p bb e) (.slice (some ⟨gs, 0, none⟩) (p + L + 1) caps) (p + L + 1) st cnt ∧ Own wq (w.heap.size + 9) 66 2 (.slice (some ⟨g, 0, none⟩) q cap) q (stepC wn wx)) (fun i _ => L + 1 - (intOf i).toNat)
                    case atStart => exact ⟨0, Nat.zero_le _, rfl, T6, O6⟩
                    case round =>
                      obtain ⟨wf, rfl⟩ : ∃ wf : World, wf = wr := ⟨_, rfl⟩
                      obtain ⟨e, he, rfl, T7, O7⟩ := hrel
                      have c7 := T7.vs.cell (i := 0) (by omega)
                      by_cases hel : e < L + 1
                      · have hen := HSN.out (p + e) (by omega)
                        have cse := T7.own.cell (j := p + e) (by omega)
                        have c5 := T7.vo.cell (i := 0) (by omega)
                        generalize hse : st (p + e) = se at hen cse
                        have HSE : Hid (st (p + e) = se) := hse
                        have co := T7.mo.cell hen
                        have fo := T7.mo.frozen se
                        have T8 := T7.setO se false
                        have cc := T8.mc.cell hen
                        have fc := T8.mc.frozen se
                        have c7' := T8.vs.cell (i := 0) (by omega)
                        have T9 := T8.setC se bb
                        have O9 : Own ((wf.setCell ⟨w.heap.size + 4, se, none⟩ (.bool false)).setCell ⟨w.heap.size + 6, se, none⟩ (.bool bb)) (w.heap.size + 9) 66 2 (.slice (some ⟨g, 0, none⟩) q cap) q (stepC wn wx) :=
                          O7.of_block (fun j hj => (Below.heap_setCell _ _ _ _ (by have := (O7.lt j hj).1; simp; omega)).trans (Below.heap_setCell _ _ _ _ (by have := (O7.lt j hj).1; simp; omega)))
                        clear hse T8
                        go_wp2
                        go_roundw
                        case rel =>
                          refine ⟨e + 1, by omega, by go_num, ?_, O9⟩
                          unfold mark
                          rw [HSE.out]
                          exact T9
                        case measure => simp [intOf]; omega
                      · obtain rfl : e = L + 1 := by omega
                        have f7 := T7.vs.frozen 0
                        have T8 := T7.setS (T7.own.cut (m := p) (by omega))
                        have O8 : Own (wf.setCell ⟨w.heap.size + 7, 0, none⟩ (.slice (some ⟨gs, 0, none⟩) p caps)) (w.heap.size + 9) 66 2 (.slice (some ⟨g, 0, none⟩) q cap) q (stepC wn wx) :=
                          O7.of_block (fun j hj => Below.heap_setCell _ _ _ _ (by have := (O7.lt j hj).1; simp; omega))
                        have HN : Hid (∃ g', g' < gk ∧ InR' w (wf.setCell ⟨w.heap.size + 7, 0, none⟩ (.slice (some ⟨gs, 0, none⟩) p caps)) n ns k (.slice (some ⟨g, 0, none⟩) q cap) g') :=
                          HI3.out.compStep HXL.out (by rw [HT.out]; exact heq) (by omega) (by rw [HT.out]; exact HST.out) (by rw [HBB.out, hsub]; exact T8) O8 HL.out.1 HL.out.2.1
                        obtain ⟨g', hg', HR⟩ := HN.out
                        clear HN T8 O8 O7 T6 O6 HI3 HL
                        go_wp2
                        go_roundg g'
                        case rel => exact HR
                        case measure => exact hg'
                  · have hj1 : j0 ≤ p := by
                      apply Classical.byContradiction
                      intro hn
                      exact HP.out j0 (by omega) hj0 hjt
                    have hj2 : j0 ≠ p := fun e => by rw [e] at hjt; exact hst hjt
                    obtain ⟨p1, rfl⟩ : ∃ p1, p = p1 + 1 := ⟨p - 1, by omega⟩
                    have hd : (((st (p1 + 1) : Nat) : Int) != ((t : Nat) : Int)) = true := by simp; omega
                    have HP2 : Hid (∀ j, p1 < j → j < zz + 1 → st j ≠ t) := fun j h1 h2 => by
                      by_cases e : j = p1 + 1
                      · rw [e]; exact hst
                      · exact HP.out j (by omega) h2
                    clear HP hst
                    go_wp2
                    go_round
                    case rel => exact ⟨p1, by omega, by go_num, HP2⟩
                    case measure => simp [intOf] <;> omega
              · have hd : (((l t : Nat) : Int) == ((r t : Nat) : Int)) = false := beq_eq_false_iff_ne.2 (by omega)
                have HN : Hid (∀ j, ∃ g', g' < gk ∧ InR' w (wc.drewN j) n ns k (.slice (some ⟨g, 0, none⟩) q cap) g') := fun j =>
                  I3.finStep HXL.out (by rw [HT.out]; exact heq) (T5.drewN j) O5 HL.out.1 HL.out.2.1
                clear I3 T5 O5 HL
                go_wp2
                go_quiet (fail)
                obtain ⟨g', hg', HR⟩ := HN.out nq
                clear HN
                go_wp2
                go_roundg g'
                case rel => exact HR
                case measure => exact hg'
    · obtain rfl : k = n := by omega
      have HA : Hid (∀ v, v < k → (cy v = true ↔ OnC ns v)) := fun v hv => J.answer hv (hvis v hv)
      go_wp2
      go_ret
      exact ⟨⟨cy, rfl, T.mc, HA.out⟩, T.bel⟩
end Go.Proofs.Qxb6602369a
