import Derived.Test.Qxb6602369aM
import Derived.Test.Qxb6602369aD
import Derived.Deep.DeepCutAuto
import Derived.Deep.LoopGhost
import Derived.Deep.RegionWith
namespace Go.Proofs.Qxb6602369a
open Go.RowKit

theorem adj_len {G : List NodeD} (hW : gW G G.length ≤ 1048576) (i : Nat) : (adj G i).length ≤ 100000 := by
  unfold adj
  by_cases hi : i < G.length
  · have h := ndW_le G hi
    generalize G.getD i nodeZ = d at h ⊢
    unfold ndW at h
    have h1 := flat_len d.parts d.parts.length (Nat.le_refl _)
    rw [List.take_length] at h1
    simp only [rawN, refN, List.length_map, List.length_append]
    omega
  · rw [List.getD, List.getElem?_eq_none (by omega)]
    simp [nodeZ, rawN, refN]
/-- What is known of FirstCycle. -/
def FCOK : Prop := ∀ (lo c : Nat) (a : Option Addr) (G : List NodeD) (w : World), RdN lo w (.slice a G.length c) G → gW G G.length ≤ 1048576 → NodesOK G → Calls Try.prog 18 #[.slice a G.length c] w fun e w' => RetFC e w.heap.size G.length w' (adj G) ∧ Below w.heap.size w w'

set_option maxRecDepth 100000 in
set_option maxHeartbeats 8000000 in
theorem law_walk (hFC : FCOK)
    (lo c : Nat) (a : Option Addr) (G : List NodeD) (w : World) (hR : RdN lo w (.slice a G.length c) G) :
    Calls Try.prog 5 #[.slice a G.length c] w fun e w' => e = .returned (.bool true) ∧ Below w.heap.size w w' := by
  have h14 := zz14_any lo c a G w hR
  go_enter Try.func5, Try.ntmps5
  go_wp2_with fail
  refine h14.mono ?_
  clear h14
  rintro e w1 ⟨⟨v, rfl⟩, hww⟩
  obtain rfl : w = w1 := hww.symm
  clear hww
  cases v with
  | false =>
    go_wp2
    go_ret
    exact ⟨rfl, Below.refl _ _⟩
  | true =>
  by_cases hlen : G.length > 1024
  · have hd : decide ((G.length : Int) > 1024) = true := decide_eq_true (by omega)
    go_wp2
    go_ret
    exact ⟨rfl, Below.refl _ _⟩
  have hd : decide ((G.length : Int) > 1024) = false := decide_eq_false (by omega)
  have h15 := nodesBytes_any lo c a G w hR
  go_wp2_with fail
  refine h15.mono ?_
  clear h15 hd
  rintro e w1 ⟨⟨x, rfl, hx⟩, hb1⟩
  by_cases hx2 : x > 1048576
  · have hd : decide (x > 1048576) = true := decide_eq_true hx2
    go_wp2
    go_ret
    exact ⟨rfl, hb1⟩
  have hd : decide (x > 1048576) = false := decide_eq_false hx2
  have hW := hx (by omega)
  have hR1 := hR.keep (Kp.of_below hb1 lo)
  have h16 := needOthers_any lo c a G w1 hR1 hW
  clear hR hx
  go_wp2_with fail
  refine h16.mono ?_
  clear h16 hd hx2
  rintro e w2 ⟨⟨v, rfl, hv⟩, hww⟩
  obtain rfl : w1 = w2 := hww.symm
  clear hww
  cases v with
  | false =>
    go_wp2
    go_ret
    exact ⟨rfl, hb1⟩
  | true =>
  have hOK := hv.1 rfl
  clear hv
  have h17 := cloneNodes_any lo c a G w1 hR1 hW
  clear hR1
  go_wp2_with fail
  refine h17.mono ?_
  clear h17
  rintro e w3 ⟨⟨a3, c3, rfl, hR3⟩, hb3⟩
  have h19 := toGraph_any w1.heap.size c3 a3 G w3 hR3 hW
  go_wp2_with fail
  refine h19.mono ?_
  clear h19
  rintro e w4 ⟨⟨a4, c4, rfl, hR4⟩, hb4⟩
  have h18 := hFC _ c4 a4 G w4 hR4 hW hOK
  have hR3' := hR3.keep (Kp.of_below hb4 _)
  have hs1 := hb1.size
  have hs3 := hb3.size
  have hs4 := hb4.size
  have hbA := (hb1.trans (hb3.mono hs1)).trans (hb4.mono (by omega))
  clear hR4 hFC hR3 hb4 hb3 hb1
  go_wp2_with fail
  refine h18.mono ?_
  clear h18
  rintro e w5 ⟨hfc, hb5⟩
  obtain ⟨ga, gl, gc, rfl, hgot⟩ := hfc.val
  have hR5 := hR3'.keep (Kp.of_below hb5 _)
  have hbB := hbA.trans (hb5.mono (by omega))
  have hs5 := hb5.size
  have hgot5 := hgot
  clear hR3' hbA hfc hb5 hgot
  have hmk := fun w => run_make_row' (P := Try.prog) 22 28 (.slice none 0 0) 24 Try.underlying22 Try.info28 rfl .i64 .i64 G.length (by omega) (by omega) w
  go_wp2
  have L0 := LR.start G w5
  generalize (w5.alloc (.cells (madeCells #[.slice none 0 0] G.length) 28)).alloc (.cells (madeCells #[.slice none 0 0] G.length) 28) = w6 at L0 ⊢
  clear hmk
  go_loopg [7] G.length (fun g i wr => ∃ (k : Nat) (vs : Nat → Value) (xs : Nat → List Nat), k + g = G.length ∧ i = .int .i64 (k : Nat) ∧ LR G w5 wr k vs xs)
  case atStart => exact ⟨0, _, _, by omega, rfl, L0⟩
  case round =>
    clear L0
    obtain ⟨wa, rfl⟩ : ∃ wa : World, wa = wr := ⟨_, rfl⟩
    obtain ⟨gA, rfl⟩ : ∃ j, j = gk := ⟨_, rfl⟩
    obtain ⟨k, vs, xs, hkg, rfl, hL⟩ := hrel
    by_cases hlt : k < G.length
    · rcases hR5.at.2 with rfl | ⟨b, o, rfl, hlo5, hb5, hc5⟩
      · simp at hlt
      obtain ⟨a1, c1, a2, c2, g1, g2, g3, r1, r2⟩ := hc5 k hlt
      have hnd := ndW_le G hlt
      have hok := hOK k hlt
      clear hc5 g3
      obtain ⟨d, hdd⟩ : ∃ d, G.getD k nodeZ = d := ⟨_, rfl⟩
      rw [hdd] at g1 g2 hnd r1 r2 hok
      have HDD : Hid (G.getD k nodeZ = d) := hdd
      clear hdd
      obtain ⟨N, P, L⟩ := d
      unfold ndW at hnd
      simp only at g1 g2 hnd r1 r2 hok
      have k1 := (hL.nt.bel.cell (p := ⟨b, o + k * 3, none⟩) hb5).trans g1
      have hck := hL.nt.row1.cell hlt
      obtain ⟨v, hv⟩ : ∃ v, vs k = v := ⟨_, rfl⟩
      rw [hv] at hck
      have hx0 := hL.nil k (Nat.le_refl _) hlt
      have hF := refs_nt hL.nt.drew hlt hv r1 (fun i hi => (hok.1 i hi).1) (by rw [hx0]; simp; omega)
      rw [hx0, List.nil_append] at hF
      have hLx : Hid (LR G w5 wa k vs xs) := hL
      clear hL
      go_upto_region 17 with fail
      go_cut [7] (fun i wx => i = .int .i64 (k : Nat) ∧ ∃ v', NT w5.heap.size G.length w5 wx (upd vs k v') (upd xs k (refN N)))
      case first =>
        go_region_with (go_at_call 20; refine hF.mono ?_; rintro e w' ⟨a', c', rfl, hN', hr'⟩; have hc' := hr'.cell hlt; have hf' := hr'.frozen k)
        all_goals (go_wp2_with fail; go_meet; exact ⟨rfl, _, hN'⟩)
      case rest =>
        clear hF hck k1 hv
        obtain ⟨rfl, v1, hN0⟩ := hcut
        obtain ⟨wb, rfl⟩ : ∃ wb : World, wb = wc := ⟨_, rfl⟩
        go_wp2
        go_loopg [8] P.length (fun g i wr => ∃ (p : Nat) (v' : Value), p + g = P.length ∧ i = .int .i64 (p : Nat) ∧ NT w5.heap.size G.length w5 wr (upd vs k v') (upd xs k (refN (N ++ (P.take p).flatten))))
        case atStart => exact ⟨0, _, by omega, rfl, by simpa using hN0⟩
        case round =>
          clear hN0
          obtain ⟨wd, rfl⟩ : ∃ wd : World, wd = wr := ⟨_, rfl⟩
          obtain ⟨gB, rfl⟩ : ∃ j, j = gk := ⟨_, rfl⟩
          obtain ⟨p, v2, hpg, rfl, hN⟩ := hrel
          have k2 := (hN.bel.cell (p := ⟨b, o + k * 3 + 1, none⟩) hb5).trans g2
          by_cases hp : p < P.length
          · rcases r2.at.2 with rfl | ⟨pb, po, rfl, hlop, hpb, hcp⟩
            · simp at hp
            obtain ⟨ap, cp, gp, rp⟩ := hcp p hp
            have k3 := (hN.bel.cell (p := ⟨pb, po + p, none⟩) hpb).trans gp
            have hck := hN.row1.cell hlt
            rw [upd_same] at hck
            have HST : Hid (refN (N ++ (P.take (p + 1)).flatten) = refN (N ++ (P.take p).flatten) ++ refN (P.getD p [])) := by
              show _ = _
              rw [flat_step P p hp]
              simp [refN]
            have hbd : (refN (N ++ (P.take p).flatten)).length + (P.getD p []).length ≤ 100000000 := by
              have h1 := flat_len P p (by omega)
              have h2 := ptW_mono P (a := p) (b := P.length) (by omega)
              have h3 := ptW_le P hp
              simp only [refN, List.length_map, List.length_append]
              omega
            have hpn : ∀ i, i < (P.getD p []).length → 0 ≤ ((P.getD p []).getD i (0, 0)).1 := fun i hi => (hok.2 p hp i hi).1
            obtain ⟨l, hl⟩ : ∃ l, P.getD p [] = l := ⟨_, rfl⟩
            rw [hl] at k3 rp HST hbd hpn
            clear hl
            have hF := refs_nt hN.drew hlt (upd_same _ _ _) rp hpn (by rw [upd_same]; exact hbd)
            rw [upd_same] at hF
            obtain ⟨ys, hys⟩ : ∃ ys, refN (N ++ (P.take p).flatten) ++ refN l = ys := ⟨_, rfl⟩
            rw [hys] at hF HST
            clear hys
            have hgA : 0 < gB := by omega
            clear hcp gp rp hbd hpn r2 g2 r1 g1
            go_upto_region 21 with fail
            go_region_with (go_at_call 20; refine hF.mono ?_; rintro e w' ⟨a', c', rfl, hN', hr'⟩; have hc' := hr'.cell hlt; have hf' := hr'.frozen k)
            all_goals (
              rw [upd_upd, upd_upd] at hN'
              go_wp2_with fail
              go_roundg (gB - 1)
              case rel => exact ⟨p + 1, _, by omega, by go_num, by rw [HST.out]; exact hN'⟩
              case measure => omega)
          · obtain rfl : p = P.length := by omega
            have hck := hN.row1.cell hlt
            rw [List.take_length] at hN
            have HAD : Hid (refN (N ++ P.flatten) = adj G k) := by show _ = _; unfold adj; rw [HDD.out]; rfl
            rw [HAD.out] at hN
            have HL := hLx.out.laid hlt hN
            have hal : (adj G k).length ≤ 100000 := by
              rw [← HAD.out]
              have h1 := flat_len P P.length (Nat.le_refl _)
              rw [List.take_length] at h1
              simp only [refN, List.length_map, List.length_append]
              omega
            have hbl := hN.bel
            clear hN hLx HDD HAD hok hnd r1 r2 g1 g2
            go_wp2
            generalize upd vs k v2 = vs0 at HL hck
            generalize upd xs k (adj G k) = xs0 at HL
            clear hck k2
            go_loopg [9] (adj G k).length (fun g i wr => ∃ (e : Nat) (vs' : Nat → Value) (xs' : Nat → List Nat), e + g = (adj G k).length ∧ i = .int .i64 (e : Nat) ∧ LK G w5 wr k e vs' xs')
            case atStart => exact ⟨0, _, _, by omega, rfl, HL⟩
            case round =>
              clear HL hbl hpg
              obtain ⟨we, rfl⟩ : ∃ we : World, we = wr := ⟨_, rfl⟩
              obtain ⟨gC, rfl⟩ : ∃ j, j = gk := ⟨_, rfl⟩
              obtain ⟨e, vs1, xs1, heg, rfl, hK⟩ := hrel
              have hck := hK.nt.row1.cell hlt
              have hown := hK.nt.own k (by omega)
              rw [hK.done k (by omega)] at hown
              obtain ⟨av, cv, hv⟩ := ownsRow_form hown
              rw [hv] at hck hown
              by_cases hel : e < (adj G k).length
              · obtain ⟨b2, hb2⟩ : ∃ b2, (adj G k)[e]? = some b2 := ⟨_, List.getElem?_eq_getElem hel⟩
                have hb2n := (adj_ok hOK (List.mem_of_getElem? hb2)).2.1
                obtain ⟨gb, go, rfl, _, _, hce⟩ := (RdI.of_owns (lo := 0) hown (Nat.zero_le _)).at hb2
                have HB2 : Hid ((adj G k)[e]? = some b2) := hb2
                have HV : Hid (vs1 k = .slice (some ⟨gb, go, none⟩) (adj G k).length cv) := hv
                have hcb := hK.nt.row2.cell hb2n
                have hN3 := hK.nt.alloc (.cells #[.int .i64 (k : Nat)] 3)
                have hoA := hN3.own (G.length + b2) (by omega)
                have hlen2 := hK.len b2
                have hone := one_cell we (.int .i64 (k : Nat)) 3
                have hszA : w5.heap.size + 2 ≤ (we.alloc (.cells #[.int .i64 (k : Nat)] 3)).heap.size := hN3.size
                obtain ⟨lv, hlv⟩ : ∃ lv, (xs1 (G.length + b2)).length = lv := ⟨_, rfl⟩
                obtain ⟨vb, hvb⟩ : ∃ vb, vs1 (G.length + b2) = vb := ⟨_, rfl⟩
                have HVB : Hid (vs1 (G.length + b2) = vb) := hvb
                rw [hlv] at hlen2 hoA
                rw [hvb] at hoA
                simp only [hvb] at hcb
                have HLV : Hid ((xs1 (G.length + b2)).length = lv) := hlv
                have hkk : k * 100000 ≤ 102400000 := by omega
                clear hb2 hv hvb hlv hown
                obtain ⟨DD, hDD⟩ : ∃ DD, (adj G k).length = DD := ⟨_, rfl⟩
                rw [hDD] at hck hel heg hal
                have hd : decide ((e : Int) < (DD : Int)) = true := decide_eq_true (by omega)
                go_wp2_with (at_builtin; refine wpList_append_grew _ rfl _ _ 28 rfl (w5.heap.size + 2) 3 _ 1 8 Try.underlying28 Try.info3 rfl (by omega) _ _ _ rfl hoA _ _ _ [.int .i64 (k : Nat)] rfl rfl hone (by simp [Value.oneCell']) (by unfold maxLen; omega) (by omega) hszA ?_)
                intro v' w' ho' hg'
                have hrw := (hN3.rows (by omega) HVB.out hg').2
                have hc2 := hrw.cell hb2n
                have hf2 := hrw.frozen b2
                have hN4 := hN3.grew2 (ys := xs1 (G.length + b2) ++ [k]) hb2n (by rw [HVB.out]; exact hg') (by rw [natL_snoc, List.length_append, HLV.out]; exact ho')
                have HK2 := hK.step hlt HB2.out hN4
                obtain ⟨av', cv', rfl⟩ := ownsRow_form ho'
                have hgC : 0 < gC := by omega
                clear ho' hg' hoA hone hszA hN3 hrw hN4 hK
                go_wp2
                go_roundg (gC - 1)
                case rel => exact ⟨e + 1, _, _, by omega, by go_num, HK2⟩
                case measure => omega
              · have HL2 := hK.next (by omega) (by omega)
                have hgA : 0 < gA := by omega
                obtain ⟨DD, hDD⟩ : ∃ DD, (adj G k).length = DD := ⟨_, rfl⟩
                rw [hDD] at hck hel
                have hd : decide ((e : Int) < (DD : Int)) = false := decide_eq_false (by omega)
                clear hK hown hv
                go_wp2
                go_roundg (gA - 1)
                case rel => exact ⟨k + 1, _, _, by omega, by go_num, HL2⟩
                case measure => omega
    · obtain rfl : k = G.length := by omega
      have hO := hL.nt.reads1.congr (fun i hi => hL.done i hi)
      have hI := hL.nt.reads2
      have hil : ∀ b, (xs (G.length + b)).length ≤ 102400000 := fun b => by have := hL.len b; omega
      have HIN : Hid (∀ b x, x ∈ (fun b => xs (G.length + b)) b ↔ b ∈ adj G x) := fun b x => (hL.ins b x).trans ⟨fun h => h.2, fun h => ⟨(adj_ok hOK h).1, h⟩⟩
      have hil2 : ∀ b, ((fun b => xs (G.length + b)) b).length ≤ 102400000 := hil
      generalize (fun b => xs (G.length + b)) = ins at hI HIN hil2
      have hgot := hgot5.keep (Kp.of_below hL.nt.bel _)
      have hbw := hbB.trans (hL.nt.bel.mono (by omega))
      have hol := adj_len hW
      have hszw := hL.nt.size
      have hmk := fun w => run_make_row' (P := Try.prog) 28 3 (.int .i64 0) 8 Try.underlying28 Try.info3 rfl .i64 .i64 G.length (by omega) (by omega) w
      clear hil hL hgot5 hbB hR5 hkg hlt hW
      go_wp2
      clear hmk
      go_loopg [12] G.length (fun g i wr => ∃ (s : Nat) (f : Nat → Value), s + g = G.length ∧ i = .int .i64 (s : Nat) ∧ Below wa.heap.size wa wr ∧ wr.rowIs wa.heap.size 3 G.length f ∧ NoneTo (adj G) s)
      case atStart => exact ⟨0, _, by omega, rfl, (Below.refl _ _).alloc (Nat.le_refl _) _, World.rowIs_made _ _ _ _, fun v hv => absurd hv (by omega)⟩
      case round =>
        obtain ⟨wb, rfl⟩ : ∃ wb : World, wb = wr := ⟨_, rfl⟩
        obtain ⟨gS, rfl⟩ : ∃ j, j = gk := ⟨_, rfl⟩
        obtain ⟨s, f, hsg, rfl, hb, hr, hnt⟩ := hrel
        have HNT : Hid (NoneTo (adj G) s) := hnt
        clear hnt
        by_cases hs : s < G.length
        · go_wp2
          go_loopg [13] G.length (fun g i wr => ∃ x : Nat, x + g = G.length ∧ i = .int .i64 (x : Nat) ∧ Below wa.heap.size wa wr ∧ wr.rowIs wa.heap.size 3 G.length (fillTo (fun _ => .int .i64 (-1)) f x))
          case atStart => exact ⟨0, by omega, rfl, hb, fillTo_zero hr⟩
          case round =>
            clear hb hr
            obtain ⟨wc, rfl⟩ : ∃ wc : World, wc = wr := ⟨_, rfl⟩
            obtain ⟨gF, rfl⟩ : ∃ j, j = gk := ⟨_, rfl⟩
            obtain ⟨x, hxg, rfl, hb, hr⟩ := hrel
            by_cases hx : x < G.length
            · have hc := hr.cell hx
              have hf := hr.frozen x
              have hr' := fillTo_step hr
              have hb' : Below wa.heap.size wa (wc.setCell ⟨wa.heap.size, x, none⟩ (.int .i64 (-1))) := hb.setCell (by simp) _
              clear hr hb
              go_wp2
              go_roundg (gF - 1)
              case rel => exact ⟨x + 1, by omega, by go_num, hb', hr'⟩
              case measure => omega
            · obtain rfl : x = G.length := by omega
              have hr' := fillTo_all hr
              have S0 := BS.start (ins := ins) hs hb hr'
              have hc := hr'.cell hs
              have hf := hr'.frozen s
              clear hr hb hr'
              go_wp2
              generalize (wc.setCell ⟨wa.heap.size, s, none⟩ (.int .i64 0)).alloc (.cells #[.int .i64 (s : Nat)] 3) = wq at S0 ⊢
              clear hc hf
              go_loopg [14, 15] G.length (fun g v iv wr => ∃ (q : Nat → Nat) (m i : Nat) (ds : Nat → Int), i + g = G.length ∧ i ≤ m ∧ iv = .int .i64 (i : Nat) ∧ BS G.length wa wr ins s v q m i 0 ds)
              case atStart => exact ⟨_, 1, 0, _, by omega, by omega, rfl, S0⟩
              case round =>
                clear S0
                obtain ⟨wd, rfl⟩ : ∃ wd : World, wd = wr := ⟨_, rfl⟩
                obtain ⟨gQ, rfl⟩ : ∃ j, j = gk := ⟨_, rfl⟩
                obtain ⟨q, m, i, ds, hig, him, rfl, S⟩ := hrel
                obtain ⟨g, off, cap, rfl, hcap, hgb, hgl, hcm⟩ := S.que.form
                have hmn := S.bck.size
                by_cases hi : i < m
                · have cq := S.que.cell hi
                  have hyn := S.bck.lt i hi
                  obtain ⟨y, hy⟩ : ∃ y, q i = y := ⟨_, rfl⟩
                  rw [hy] at cq hyn
                  have HS : Hid (BS G.length wa wd ins s (.slice (some ⟨g, off, none⟩) m cap) q m i 0 ds) := S
                  have HY : Hid (q i = y) := hy
                  clear S hy
                  have hd : decide ((i : Int) < (m : Int)) = true := decide_eq_true (by omega)
                  rcases hI with h0 | ⟨ib, io, e1, h1, h2, h3⟩
                  · omega
                  cases e1
                  obtain ⟨ai, ci, gx, rx⟩ := h3 y hyn
                  rw [Nat.zero_add] at gx
                  clear h3
                  go_wp2
                  go_loopg [17, 14] (ins y).length (fun g kv v wr => ∃ (k : Nat) (q : Nat → Nat) (m : Nat) (ds : Nat → Int), k + g = (ins y).length ∧ i < m ∧ q i = y ∧ kv = .int .i64 (k : Nat) ∧ BS G.length wa wr ins s v q m i k ds)
                  case atStart => exact ⟨0, q, m, ds, by omega, hi, HY.out, rfl, HS.out⟩
                  case round =>
                    clear HS HY cq hd hcap hgb hgl hcm hmn
                    clear hi him ds q
                    obtain ⟨we, rfl⟩ : ∃ we : World, we = wr := ⟨_, rfl⟩
                    obtain ⟨gK, rfl⟩ : ∃ j, j = gk := ⟨_, rfl⟩
                    obtain ⟨k, q, m', ds, hkg, him, hqy, rfl, S⟩ := hrel
                    have hmn := S.bck.size
                    have gx' := (S.bel.cell (p := ⟨w5.heap.size + 1, y, none⟩) h2).trans gx
                    have hlen2 := hil2 y
                    by_cases hkl : k < (ins y).length
                    · obtain ⟨x, hx⟩ : ∃ x, (ins y)[k]? = some x := ⟨_, List.getElem?_eq_getElem hkl⟩
                      have hxn := (adj_ok hOK ((HIN.out y x).1 (List.mem_of_getElem? hx))).1
                      obtain ⟨b2, o2, rfl, hlo2, hb3, hc2⟩ := (rx.keep (Kp.of_below S.bel _)).at hx
                      have HX : Hid ((ins (q i))[k]? = some x) := by show _ = _; rw [hqy]; exact hx
                      have HQ : Hid (q i = y) := hqy
                      have cf := S.row.cell hxn
                      have ff := S.row.frozen x
                      have cy := S.row.cell hyn
                      have hbx := S.bnd y
                      obtain ⟨f, hf⟩ : ∃ f, ds x = f := ⟨_, rfl⟩
                      obtain ⟨fy, hfy⟩ : ∃ fy, ds y = fy := ⟨_, rfl⟩
                      rw [hf] at cf
                      rw [hfy] at cy hbx
                      clear hx hqy
                      obtain ⟨DD, hDD⟩ : ∃ DD, (ins y).length = DD := ⟨_, rfl⟩
                      rw [hDD] at gx' hkl hkg hlen2
                      have HDD : Hid ((ins y).length = DD) := hDD
                      clear hDD
                      by_cases hneg : f < 0
                      · have hd3 : decide (f < 0) = true := decide_eq_true hneg
                        obtain ⟨g, off, cap, rfl, hcap, hgb, hgl, hcm⟩ := S.que.form
                        have hqs := S.que.lt
                        have hsz := S.size
                        have hq1 : Que ((we.setCell ⟨wa.heap.size, x, none⟩ (.int .i64 (fy + 1))).alloc (.cells #[.int .i64 (x : Nat)] 3)) (wa.heap.size + 1) (.slice (some ⟨g, off, none⟩) m' cap) m' q := (S.que.of_block (fun g hg => Deep.blk_setCell_other _ _ _ _ (by have := (hqs g hg).1; simp; omega))).alloc _
                        have hone := one_cell (we.setCell ⟨wa.heap.size, x, none⟩ (.int .i64 (fy + 1))) (.int .i64 (x : Nat)) 3
                        rw [Deep.nblk_setCell] at hone
                        have HSP : Hid (∀ w' v', Que w' (wa.heap.size + 1) v' (m' + 1) (upd q m' x) → Grew ((we.setCell ⟨wa.heap.size, x, none⟩ (.int .i64 (fy + 1))).alloc (.cells #[.int .i64 (x : Nat)] 3)) w' (.slice (some ⟨g, off, none⟩) m' cap) v' →
                            BS G.length wa w' ins s v' (upd q m' x) (m' + 1) i (k + 1) (upd ds x (ds (q i) + 1))) := fun w' v' hq hg => S.push him hxn HX.out (by omega) hq (by rw [HQ.out, hfy]; exact hg)
                        have hszq : wa.heap.size + 1 ≤ ((we.setCell ⟨wa.heap.size, x, none⟩ (.int .i64 (fy + 1))).alloc (.cells #[.int .i64 (x : Nat)] 3)).heap.size := by simp; omega
                        clear S hqs hf hfy
                        go_wp2_with (at_builtin; refine wpList_append_que _ rfl _ _ 28 rfl Try.underlying28 Try.info3 (wa.heap.size + 1) _ _ _ rfl hq1 _ _ x rfl hone (by omega) hszq ?_)
                        intro v' w' hq' hg'
                        have S2 := HSP.out w' v' hq' hg'
                        obtain ⟨g', off', cap', rfl, _⟩ := hq'.form
                        clear HSP hg' hq' hq1 hone hszq
                        go_wp2
                        go_roundg (gK - 1)
                        case rel => exact ⟨k + 1, _, m' + 1, _, by rw [HDD.out]; omega, by omega, by rw [upd_other _ _ _ (by omega)]; exact HQ.out, by go_num, S2⟩
                        case measure => omega
                      · have hd3 : decide (f < 0) = false := decide_eq_false hneg
                        have S2 := S.skip him hxn HX.out (by omega)
                        clear S hf hfy
                        go_wp2
                        go_roundg (gK - 1)
                        case rel => exact ⟨k + 1, q, m', ds, by rw [HDD.out]; omega, by omega, HQ.out, by go_num, S2⟩
                        case measure => omega
                    · have S2 := S.next him (by rw [hqy]; omega)
                      obtain ⟨DD, hDD⟩ : ∃ DD, (ins y).length = DD := ⟨_, rfl⟩
                      rw [hDD] at gx' hkl hkg hlen2
                      have hd : decide ((k : Int) < (DD : Int)) = false := decide_eq_false (by omega)
                      clear S
                      go_wp2
                      go_roundg (gQ - 1)
                      case rel => exact ⟨q, m', i + 1, ds, by omega, by omega, by go_num, S2⟩
                      case measure => omega
                · obtain rfl : i = m := by omega
                  have HD : Hid (IsDist (Edg (adj G)) s G.length ds) := S.bck.drop rfl HIN.out (fun b x hx => (adj_ok hOK ((HIN.out b x).1 hx)).1)
                  have hbd : ∀ x, -1 ≤ ds x ∧ ds x ≤ 1024 := fun x => by have := S.bnd x; omega
                  have hb := S.bel
                  have hrow := S.row
                  clear S
                  go_wp2
                  rcases hO with h0 | ⟨ob, oo, e1, h1, h2, h3⟩
                  · omega
                  cases e1
                  obtain ⟨aS, cS, gs, rs⟩ := h3 s hs
                  rw [Nat.zero_add] at gs
                  have gs' := (hb.cell (p := ⟨w5.heap.size, s, none⟩) h2).trans gs
                  have rs' := rs.keep (Kp.of_below hb _)
                  have hols := hol s
                  clear rs gs hcap hgb hgl hcm
                  go_loopg [19, 20] (adj G s).length (fun g bv kv wr => ∃ (k : Nat) (b : Int), k + g = (adj G s).length ∧ bv = .int .i64 b ∧ kv = .int .i64 (k : Nat) ∧ Bst (adj G s) ds k b ∧ -1 ≤ b ∧ b ≤ 1024 ∧ wr = wd)
                  case atStart => exact ⟨0, -1, by omega, rfl, rfl, Bst.start _ _, by omega, by omega, rfl⟩
                  case round =>
                    obtain ⟨gK, rfl⟩ : ∃ j, j = gk := ⟨_, rfl⟩
                    obtain ⟨k, b, hkg, rfl, rfl, hB, hb1, hb2, hwr⟩ := hrel
                    obtain rfl : wd = wr := hwr.symm
                    clear hwr
                    obtain ⟨DD, hDD⟩ : ∃ DD, (adj G s).length = DD := ⟨_, rfl⟩
                    have HDD : Hid ((adj G s).length = DD) := hDD
                    have HB : Hid (Bst (adj G s) ds k b) := hB
                    clear hB
                    by_cases hkl : k < (adj G s).length
                    · obtain ⟨y, hy⟩ : ∃ y, (adj G s)[k]? = some y := ⟨_, List.getElem?_eq_getElem hkl⟩
                      have hyn := (adj_ok hOK (List.mem_of_getElem? hy)).2.1
                      obtain ⟨b2, o2, rfl, hlo2, hb3, hc2⟩ := rs'.at hy
                      have HYD : Hid ((adj G s).getD k 0 = y) := by show _ = _; rw [List.getD, hy]; rfl
                      have cf := hrow.cell hyn
                      have hby := hbd y
                      obtain ⟨d, hd⟩ : ∃ d, ds y = d := ⟨_, rfl⟩
                      rw [hd] at cf hby
                      have HDY : Hid (ds ((adj G s).getD k 0) = d) := by show _ = _; rw [HYD.out]; exact hd
                      rw [hDD] at gs' hkl hkg hols
                      clear hy hd hDD rs'
                      by_cases h0 : 0 ≤ d
                      · have t0 : decide (d ≥ 0) = true := decide_eq_true h0
                        by_cases hbn : b < 0
                        · have t1 : decide (b < 0) = true := decide_eq_true hbn
                          go_wp2
                          go_roundg (gK - 1)
                          case rel => exact ⟨k + 1, d, by rw [HDD.out]; omega, rfl, by go_num, HB.out.take HDY.out h0 (.inl hbn), by omega, by omega, rfl⟩
                          case measure => omega
                        · have t1 : decide (b < 0) = false := decide_eq_false hbn
                          by_cases hdb : d < b
                          · have t2 : decide (d < b) = true := decide_eq_true hdb
                            go_wp2
                            go_roundg (gK - 1)
                            case rel => exact ⟨k + 1, d, by rw [HDD.out]; omega, rfl, by go_num, HB.out.take HDY.out h0 (.inr hdb), by omega, by omega, rfl⟩
                            case measure => omega
                          · have t2 : decide (d < b) = false := decide_eq_false hdb
                            go_wp2
                            go_roundg (gK - 1)
                            case rel => exact ⟨k + 1, b, by rw [HDD.out]; omega, rfl, by go_num, HB.out.pass HDY.out (.inr (by omega)), by omega, by omega, rfl⟩
                            case measure => omega
                      · have t0 : decide (d ≥ 0) = false := decide_eq_false h0
                        go_wp2
                        go_roundg (gK - 1)
                        case rel => exact ⟨k + 1, b, by rw [HDD.out]; omega, rfl, by go_num, HB.out.pass HDY.out (.inl (by omega)), by omega, by omega, rfl⟩
                        case measure => omega
                    · have hkD : k = (adj G s).length := by omega
                      have HB2 : Hid (Bst (adj G s) ds (adj G s).length b) := by show Bst _ _ _ _; rw [← hkD]; exact HB.out
                      have hltS : ∀ y, y ∈ adj G s → y < G.length := fun y hy => (adj_ok hOK hy).2.1
                      rw [hDD] at gs' hkl hkg hols
                      have hd : decide ((k : Int) < (DD : Int)) = false := decide_eq_false (by omega)
                      clear HB hDD hkD rs'
                      by_cases hbn : b < 0
                      · have t1 : decide (b < 0) = true := decide_eq_true hbn
                        have HN2 : Hid (NoneTo (adj G) (s + 1)) := fun v hv d hp => by
                          by_cases e : v = s
                          · subst e; exact HB2.out.none HD.out hltS hbn d hp
                          · exact HNT.out v (by omega) d hp
                        go_wp2
                        go_roundg (gS - 1)
                        case rel => exact ⟨s + 1, _, by omega, by go_num, hb, hrow, HN2.out⟩
                        case measure => omega
                      · have t1 : decide (b < 0) = false := decide_eq_false hbn
                        obtain ⟨r, hbr, hp1, hp2⟩ := HB2.out.some HD.out hltS (by omega)
                        obtain ⟨c, g, hrn, rfl, rfl, hgl, hgc, hC⟩ := (hgot.keep (Kp.of_below hb _)).at hs HNT.out hp1 hp2
                        have HC : Hid (Cyc (adj G) s r c) := hC
                        have hc0 : c 0 = s := hC.zero
                        clear hp1 hp2 HB2 hC hgot
                        obtain rfl : b = (r : Int) := hbr
                        have cg0 := hgc 0 (by omega)
                        rw [hc0] at cg0
                        go_wp2
                        have HGC : Hid (∀ j, j ≤ r → wd.cell? ⟨g, j, none⟩ = some (.int .i64 (c j : Nat))) := hgc
                        have HZ0 : Hid (c 0 = s) := hc0
                        clear cg0 hgc t1 hd hbn hc0
                        go_loopg [23, 24] r (fun g xv iv wr => ∃ i : Nat, 1 ≤ i ∧ i + g = r + 1 ∧ xv = .int .i64 (c (i - 1) : Nat) ∧ iv = .int .i64 (i : Nat) ∧ wr = wd)
                        case atStart => exact ⟨1, by omega, by omega, by rw [← HZ0.out], rfl, rfl⟩
                        case round =>
                          obtain ⟨gN, rfl⟩ : ∃ j, j = gk := ⟨_, rfl⟩
                          obtain ⟨i2, hi1, hig2, rfl, rfl, hwr⟩ := hrel
                          obtain rfl : wd = wr := hwr.symm
                          clear hwr
                          by_cases hir : i2 < r + 1
                          · have hzn : c (i2 - 1) < G.length := by
                              by_cases e0 : i2 = 1
                              · rw [e0, show 1 - 1 = 0 from rfl, HZ0.out]; exact hs
                              · have := HC.out.mem (i2 - 1 - 1) (by omega)
                                rw [show i2 - 1 - 1 + 1 = i2 - 1 by omega] at this
                                exact (adj_ok hOK this).2.1
                            have HNX : Hid (∀ x, Nxt (adj G (c (i2 - 1))) ds ((r : Int) + 1 - (i2 : Int)) (adj G (c (i2 - 1))).length x → x = (c i2 : Nat)) := fun x hx => by
                              have h := HC.out.next HD.out (fun a y hy => (adj_ok hOK hy).2.1) (j := i2 - 1) (by omega) (x := x) (by
                                rw [show ((r - (i2 - 1) : Nat) : Int) = (r : Int) + 1 - (i2 : Int) by omega]; exact hx)
                              rw [show i2 - 1 + 1 = i2 by omega] at h
                              exact h
                            have cgi := HGC.out i2 (by omega)
                            obtain ⟨z2, hz2⟩ : ∃ z2, c i2 = z2 := ⟨_, rfl⟩
                            rw [hz2] at HNX cgi
                            have HZ2 : Hid (c i2 = z2) := hz2
                            obtain ⟨z, hz⟩ : ∃ z, c (i2 - 1) = z := ⟨_, rfl⟩
                            rw [hz] at hzn HNX
                            rw [hz]
                            clear hz hz2
                            obtain ⟨aZ, cZ, gz, rz⟩ := h3 z hzn
                            rw [Nat.zero_add] at gz
                            have gz' := (hb.cell (p := ⟨w5.heap.size, z, none⟩) h2).trans gz
                            have rz' := rz.keep (Kp.of_below hb _)
                            have holz := hol z
                            clear rz gz
                            have t : decide ((i2 : Int) < (r : Int) + 1) = true := decide_eq_true (by omega)
                            go_wp2
                            clear t
                            go_loopg [25, 26] (adj G z).length (fun g nv kv wr => ∃ (e : Nat) (nx : Int), e + g = (adj G z).length ∧ nv = .int .i64 nx ∧ kv = .int .i64 (e : Nat) ∧ Nxt (adj G z) ds ((r : Int) + 1 - (i2 : Int)) e nx ∧ wr = wd)
                            case atStart => exact ⟨0, -1, by omega, rfl, rfl, Nxt.start _ _ _, rfl⟩
                            case round =>
                              obtain ⟨gE, rfl⟩ : ∃ j, j = gk := ⟨_, rfl⟩
                              obtain ⟨e, nx, heg, rfl, rfl, hX, hwr⟩ := hrel
                              obtain rfl : wd = wr := hwr.symm
                              clear hwr
                              have HX : Hid (Nxt (adj G z) ds ((r : Int) + 1 - (i2 : Int)) e nx) := hX
                              clear hX
                              obtain ⟨DZ, hDZ⟩ : ∃ DZ, (adj G z).length = DZ := ⟨_, rfl⟩
                              have HDZ : Hid ((adj G z).length = DZ) := hDZ
                              by_cases hel : e < (adj G z).length
                              · obtain ⟨y, hy⟩ : ∃ y, (adj G z)[e]? = some y := ⟨_, List.getElem?_eq_getElem hel⟩
                                have hyn := (adj_ok hOK (List.mem_of_getElem? hy)).2.1
                                obtain ⟨b2, o2, rfl, hlo2, hb3, hc2⟩ := rz'.at hy
                                have HYD : Hid ((adj G z).getD e 0 = y) := by show _ = _; rw [List.getD, hy]; rfl
                                have cf := hrow.cell hyn
                                obtain ⟨f', hf'⟩ : ∃ f', ds y = f' := ⟨_, rfl⟩
                                rw [hf'] at cf
                                have HFD : Hid (ds y = f') := hf'
                                rw [hDZ] at gz' hel heg holz
                                clear hy hf' hDZ rz'
                                by_cases hw : f' = (r : Int) + 1 - (i2 : Int)
                                · have t0 : (f' == (r : Int) + 1 - (i2 : Int)) = true := beq_iff_eq.2 hw
                                  have HW : Hid (f' = (r : Int) + 1 - (i2 : Int)) := hw
                                  clear hw
                                  by_cases hnx : nx < 0
                                  · have t1 : decide (nx < 0) = true := decide_eq_true hnx
                                    go_wp2
                                    go_roundg (gE - 1)
                                    case rel => exact ⟨e + 1, _, by rw [HDZ.out]; omega, rfl, by go_num, HX.out.take HYD.out (HFD.out.trans HW.out) (.inl hnx), rfl⟩
                                    case measure => omega
                                  · have t1 : decide (nx < 0) = false := decide_eq_false hnx
                                    by_cases hlt : ((y : Nat) : Int) < nx
                                    · have t2 : decide (((y : Nat) : Int) < nx) = true := decide_eq_true hlt
                                      go_wp2
                                      go_roundg (gE - 1)
                                      case rel => exact ⟨e + 1, _, by rw [HDZ.out]; omega, rfl, by go_num, HX.out.take HYD.out (HFD.out.trans HW.out) (.inr hlt), rfl⟩
                                      case measure => omega
                                    · have t2 : decide (((y : Nat) : Int) < nx) = false := decide_eq_false hlt
                                      go_wp2
                                      go_roundg (gE - 1)
                                      case rel => exact ⟨e + 1, nx, by rw [HDZ.out]; omega, rfl, by go_num, HX.out.pass HYD.out (.inr (by omega)), rfl⟩
                                      case measure => omega
                                · have t0 : (f' == (r : Int) + 1 - (i2 : Int)) = false := beq_eq_false_iff_ne.2 hw
                                  have HP : Hid (Nxt (adj G z) ds ((r : Int) + 1 - (i2 : Int)) (e + 1) nx) := HX.out.pass HYD.out (.inl (by rw [HFD.out]; exact hw))
                                  clear hw HX
                                  go_wp2
                                  go_roundg (gE - 1)
                                  case rel => exact ⟨e + 1, nx, by rw [HDZ.out]; omega, rfl, by go_num, HP.out, rfl⟩
                                  case measure => omega
                              · have heD : e = (adj G z).length := by omega
                                obtain rfl : nx = ((z2 : Nat) : Int) := HNX.out nx (by rw [← heD]; exact HX.out)
                                rw [hDZ] at gz' hel heg holz
                                have hd : decide ((e : Int) < (DZ : Int)) = false := decide_eq_false (by omega)
                                have t1 : decide (((z2 : Nat) : Int) < 0) = false := decide_eq_false (by omega)
                                clear hDZ heD rz' HX HNX
                                go_wp2
                                go_roundg (gN - 1)
                                case rel => exact ⟨i2 + 1, by omega, by omega, by rw [Nat.add_sub_cancel, HZ2.out], by go_num, rfl⟩
                                case measure => omega
                          · have t : decide ((i2 : Int) < (r : Int) + 1) = false := decide_eq_false (by omega)
                            go_wp2
                            go_ret
                            exact ⟨rfl, hbw.trans (hb.mono (by omega))⟩
        · obtain rfl : s = G.length := by omega
          obtain ⟨rfl, rfl, rfl⟩ := hgot.nil HNT.out
          have hnil := fun w => Lib.run_eql_slice_nil (P := Try.prog) w 28 3 none 0 0 0 0 Try.underlying28
          go_wp2
          go_ret
          exact ⟨rfl, hbw.trans (hb.mono (by omega))⟩
end Go.Proofs.Qxb6602369a
