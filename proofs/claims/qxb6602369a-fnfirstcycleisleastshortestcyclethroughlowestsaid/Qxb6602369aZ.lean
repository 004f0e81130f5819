import Derived.Test.Qxb6602369aK
import Derived.Test.Qxb6602369aU
import Derived.Deep.LoopGhost
import Derived.Deep.RegionLaw
namespace Go.Proofs.Qxb6602369a
open Go.RowKit

theorem kp_grew {lo b j : Nat} {w1 wc w2 w' : World} {v v' u : Value} (h : Kp lo w1 wc) (hb : Below wc.heap.size wc w2) (hg : Grew w2 w' v v') (hv : ∀ g, v.ownBlock = some g → w1.heap.size ≤ g) (hbl : b < lo) : Kp lo w1 (w'.setCell ⟨b, j, none⟩ u) ∧ ∀ g, v'.ownBlock = some g → w1.heap.size ≤ g := by
  have h1 := h.size
  have h2 := hb.size
  have h3 := hg.grown.size
  refine ⟨⟨by rw [Deep.nblk_setCell]; omega, fun k a1 a2 => ?_⟩, fun g e => ?_⟩
  · refine (Deep.blk_setCell_other _ _ _ _ (by simp; omega)).trans ((hg.grown.block k (by omega) (fun e => ?_)).trans ((hb.block k (by omega)).trans (h.block k a1 a2)))
    have := hv k e.symm
    omega
  · rcases hg.blk with e2 | ⟨k, e2, h4⟩
    · rw [e2] at e; exact hv g e
    · rw [e2] at e; have : k = g := Option.some.inj e; omega
/-- Between two nodes. -/
def NdR (w wr : World) (G : List NodeD) (k : Nat) : Prop := ∃ vs xs, NR w.heap.size G.length w wr vs xs ∧ AdjOK G xs k ∧ ∀ i, k ≤ i → vs i = .slice none 0 0 ∧ xs i = []

set_option maxRecDepth 100000 in
set_option maxHeartbeats 4000000 in
theorem firstCycle_any (lo c : Nat) (a : Option Addr) (G : List NodeD) (w : World) (hR : RdN lo w (.slice a G.length c) G) (hW : gW G G.length ≤ 1048576) (hOK : NodesOK G) :
    Calls Try.prog 18 #[.slice a G.length c] w fun e w' => RetFC e w.heap.size G.length w' (adj G) ∧ Below w.heap.size w w' := by
  have hat := (hR.at).2
  have hGl := gW_len G G.length
  have hmk := fun w => run_make_row' (P := Try.prog) 22 28 (.slice none 0 0) 24 Try.underlying22 Try.info28 rfl .i64 .i64 G.length (by omega) (by omega) w
  clear hR
  go_enter Try.func18, Try.ntmps18
  go_wp2
  go_loopw [21] (fun i wr => ∃ k : Nat, k ≤ G.length ∧ i = .int .i64 (k : Nat) ∧ NdR w wr G k) (fun i _ => G.length - (intOf i).toNat)
  case atStart => exact ⟨0, Nat.zero_le _, rfl, _, _, NR.init w G.length, fun i hi => absurd hi (by omega), fun _ _ => ⟨rfl, rfl⟩⟩
  case round =>
    clear hmk
    obtain ⟨wa, rfl⟩ : ∃ wa : World, wa = wr := ⟨_, rfl⟩
    obtain ⟨k, hk, rfl, vs, xs, hN, hA, hZ⟩ := hrel
    by_cases hlt : k < G.length
    · rcases hat with rfl | ⟨b, o, rfl, hlo, hb, hc⟩
      · simp at hlt
      obtain ⟨a1, c1, a2, c2, g1, g2, g3, r1, r2⟩ := hc k hlt
      have hnd := ndW_le G hlt
      have hok := hOK k hlt
      clear hc
      obtain ⟨d, hdd⟩ : ∃ d, G.getD k nodeZ = d := ⟨_, rfl⟩
      rw [hdd] at g1 g2 g3 hnd r1 r2 hok
      have HDD : Hid (G.getD k nodeZ = d) := hdd
      clear hdd
      obtain ⟨N, P, L⟩ := d
      unfold ndW at hnd
      simp only at g1 g2 g3 hnd r1 r2 hok
      have k1 := (hN.bel.cell (p := ⟨b, o + k * 3, none⟩) hb).trans g1
      have k2 := (hN.bel.cell (p := ⟨b, o + k * 3 + 1, none⟩) hb).trans g2
      have k3 := (hN.bel.cell (p := ⟨b, o + k * 3 + 2, none⟩) hb).trans g3
      have hba := hN.bel.alloc (by have := hN.size; omega) (.cells #[.slice a1 N.length c1, .slice a2 P.length c2, .bool L] 45)
      have hF := allNeeds_any lo c1 c2 a1 a2 N P L (wa.alloc (.cells #[.slice a1 N.length c1, .slice a2 P.length c2, .bool L] 45)) (r1.keep (Kp.of_below hba lo)) (r2.keep (Kp.of_below hba lo)) (by have := hba.size; omega) (by omega) (by omega)
      go_wp2_with fail
      refine hF.mono ?_
      clear hF k1 k2 k3 g1 g2 g3 r1 r2 hba
      have hNa := hN.alloc (.cells #[.slice a1 N.length c1, .slice a2 P.length c2, .bool L] 45)
      generalize wa.alloc (.cells #[.slice a1 N.length c1, .slice a2 P.length c2, .bool L] 45) = wb at hNa ⊢
      rintro e w1 ⟨⟨ar, cr, rfl, hr1⟩, hb1⟩
      have hN1 := hNa.below hb1
      have hll : (N ++ P.flatten).length ≤ 100000 := by
        rw [List.length_append]
        have := flat_len P P.length (Nat.le_refl _)
        rw [List.take_length] at this
        omega
      have hpos : ∀ i, i < (N ++ P.flatten).length → 0 ≤ ((N ++ P.flatten).getD i (0, 0)).1 := allNeeds_pos hok.1 hok.2
      obtain ⟨l, hl⟩ : ∃ l, N ++ P.flatten = l := ⟨_, rfl⟩
      rw [hl] at hr1 hll hpos ⊢
      have HRAW : Hid (rawN (G.getD k nodeZ) = refN l) := by show _ = _; rw [HDD.out, ← hl]; rfl
      have hsb := hNa.size
      clear hl hok hnd HDD hN hNa
      go_wp2
      go_loopw [29] (fun i wq => ∃ e : Nat, e ≤ l.length ∧ i = .int .i64 (e : Nat) ∧ ∃ v, NR w.heap.size G.length w wq (upd vs k v) (upd xs k (refN (l.take e))) ∧ Kp wb.heap.size w1 wq ∧ ∀ g, v.ownBlock = some g → w1.heap.size ≤ g) (fun i _ => l.length - (intOf i).toNat)
      case atStart => exact ⟨0, Nat.zero_le _, rfl, _, by rw [upd_id (hZ k (Nat.le_refl _)).1, upd_id (by rw [(hZ k (Nat.le_refl _)).2]; rfl)]; exact hN1, Kp.refl _ _, (fun g hg => by cases hg)⟩
      case round =>
        obtain ⟨wc, rfl⟩ : ∃ wc : World, wc = wr := ⟨_, rfl⟩
        obtain ⟨e, he, rfl, v, hN2, hK2, hv2⟩ := hrel
        by_cases hel : e < l.length
        · rcases (hr1.keep hK2).at.2 with rfl | ⟨b2, o2, rfl, hlo2, hb2, hc2⟩
          · simp at hel
          obtain ⟨g1, g2⟩ := hc2 e hel
          have hpe := hpos e hel
          obtain ⟨x, hx⟩ : ∃ x : Nat, (l.getD e (0, 0)).1 = (x : Int) := ⟨_, (Int.toNat_of_nonneg hpe).symm⟩
          have HST : Hid (refN (l.take (e + 1)) = refN (l.take e) ++ [x]) := refN_step l hel hx
          have hle : (refN (l.take e)).length = e := by simp [refN]; omega
          obtain ⟨y, hy⟩ : ∃ y : Int, (l.getD e (0, 0)).2 = y := ⟨_, rfl⟩
          rw [hx] at g1
          rw [hy] at g2
          clear hc2 hpe hx hy
          have hck := hN2.row.cell hlt
          rw [upd_same] at hck
          have hck2 := (hN2.alloc (.cells #[.int .i64 (x : Nat), .int .i64 y] 49)).row.cell hlt
          rw [upd_same] at hck2
          have hck3 := ((hN2.alloc (.cells #[.int .i64 (x : Nat), .int .i64 y] 49)).alloc (.cells #[.int .i64 (x : Nat)] 3)).row.cell hlt
          rw [upd_same] at hck3
          have hN3 := ((hN2.alloc (.cells #[.int .i64 (x : Nat), .int .i64 y] 49)).alloc (.cells #[.int .i64 (x : Nat)] 3)).drew
          have hownA := hN3.own k hlt
          rw [upd_same, upd_same, hle] at hownA
          have hone := one_cell (wc.alloc (.cells #[.int .i64 (x : Nat), .int .i64 y] 49)) (.int .i64 (x : Nat)) 3
          rw [show (wc.alloc (.cells #[.int .i64 (x : Nat), .int .i64 y] 49)).heap.size = wc.heap.size + 1 by simp] at hone
          have hszA : w.heap.size + 1 ≤ (((wc.alloc (.cells #[.int .i64 (x : Nat), .int .i64 y] 49)).alloc (.cells #[.int .i64 (x : Nat)] 3)).drew).heap.size := by have := hN2.size; simp; omega
          have hbA : Below wc.heap.size wc ((wc.alloc (.cells #[.int .i64 (x : Nat), .int .i64 y] 49)).alloc (.cells #[.int .i64 (x : Nat)] 3)).drew := (((Below.refl _ _).alloc (Nat.le_refl _) _).alloc (by simp) _).drew
          go_wp2
          go_region_law (refine step_append_grew (((wc.alloc (.cells #[.int .i64 (x : Nat), .int .i64 y] 49)).alloc (.cells #[.int .i64 (x : Nat)] 3)).drew) rfl (.tmp 38) (.tmp 41) 28 rfl (w.heap.size + 1) 3 (.int .i64 0) 1 8 Try.underlying28 Try.info3 rfl (by omega) v e (natL (refN (l.take e))) (by simp [Act.eval]) hownA ⟨wc.heap.size + 1, 0, none⟩ 1 1 [.int .i64 (x : Nat)] (by simp [Act.eval]) rfl hone (by simp [Value.oneCell']) (by unfold maxLen; omega) (by omega) hszA (by omega) ?_; intro g cap w' ho' hg'; have hrow' := hN3.growRow hlt (upd_same _ _ _) hg'; have hc' := hrow'.cell hlt; have hf' := hrow'.frozen k)
          all_goals (
            have hN4 := hN3.grew hlt (ys := refN (l.take e) ++ [x]) (by rw [upd_same]; exact hg') (by rw [natL_snoc, List.length_append, hle]; exact ho')
            rw [upd_upd, upd_upd, ← HST.out] at hN4
            obtain ⟨hK4, hv4⟩ := kp_grew (b := w.heap.size) (j := k) (u := .slice (some ⟨g, 0, none⟩) (e + 1) cap) hK2 hbA hg' hv2 (by omega)
            clear hN3 hownA hone hszA hbA hck hck2 hck3 hrow' hc' hf' ho' hg' g1 g2
            go_wp2
            go_roundw
            case rel => exact ⟨e + 1, by omega, by go_num, _, hN4, hK4, hv4⟩
            case measure => simp [intOf]; omega)
        · obtain rfl : e = l.length := by omega
          rw [List.take_length] at hN2
          have hrl : (refN l).length = l.length := by simp [refN]
          have hck := hN2.row.cell hlt
          rw [upd_same] at hck
          have hown := hN2.own k hlt
          rw [upd_same, upd_same] at hown
          have hF := sort_any (w.heap.size + 1) v (refN l) wc hown (by omega)
          go_wp2_with fail
          refine hF.mono ?_
          clear hF hck hown
          rintro e2 w3 ⟨rfl, ys, hp, hs, ho, hg⟩
          have hN3 := hN2.turn (i := k) hlt (ys := ys) (by rw [upd_same]; exact hg) (by rw [upd_same, hp.length_eq]; exact ho)
          rw [upd_upd] at hN3
          have hck := hN3.row.cell hlt
          rw [upd_same] at hck
          have hown := hN3.own k hlt
          rw [upd_same, upd_same] at hown
          have hpl := hp.length_eq
          have HM1 : Hid (∀ x, x ∈ ys ↔ x ∈ refN l) := fun x => hp.mem_iff
          have hF := compact_any (w.heap.size + 1) v ys w3 hown (by omega) hs
          clear hN2 hp hs ho hg hown
          go_wp2_with fail
          refine hF.mono ?_
          clear hF hck
          rintro e3 w4 ⟨v', zs, rfl, hz, hmem, hlen, ho4, hg4⟩
          obtain ⟨av, cv, rfl⟩ := ownsRow_form ho4
          have hrow4 := hN3.growRow hlt (upd_same _ _ _) hg4
          have hc4 := hrow4.cell hlt
          have hf4 := hrow4.frozen k
          have hN4 := hN3.grew hlt (by rw [upd_same]; exact hg4) ho4
          rw [upd_upd, upd_upd] at hN4
          have HA : Hid (AdjOK G (upd xs k zs) (k + 1)) := hA.step hz (fun x => by rw [HRAW.out, ← HM1.out x]; exact hmem x) (by omega)
          clear hA hz hmem hN3 hg4 ho4 hrow4 HM1 HRAW
          go_wp2
          go_roundw
          case rel => exact ⟨k + 1, by omega, by go_num, _, _, hN4, HA.out, fun i hi => by rw [upd_other _ _ _ (by omega), upd_other _ _ _ (by omega)]; exact hZ i (by omega)⟩
          case measure => simp [intOf]; omega
    · obtain rfl : k = G.length := by omega
      have hrd := hN.reads
      have HE : Hid (∀ a x, x ∈ xs a ↔ x ∈ adj G a) := hA.all (fun i hi => (hZ i hi).2)
      have hrows : ∀ v, v < G.length → ∀ u, u ∈ xs v → u < G.length := fun v _ u hu => (adj_ok hOK ((HE.out v u).1 hu)).2.1
      have hself : ∀ v, v ∉ xs v := fun v hv => (adj_ok hOK ((HE.out v v).1 hv)).2.2 rfl
      have hsort : ∀ v, v < G.length → (xs v).Pairwise (· < ·) := fun v hv => (hA v hv).1
      have hdeg : ∀ v, v < G.length → (xs v).length ≤ 1000000 := fun v hv => by have := (hA v hv).2.2; omega
      have hF := onCycle_any w.heap.size G.length G.length (some ⟨w.heap.size, 0, none⟩) xs wa hrd (by omega) hrows hdeg
      have hbw := hN.bel
      have hn20 : G.length ≤ 20000 := by omega
      have hszw := hN.size
      clear hN hA hZ hat hlt hk hW
      go_wp2_with fail
      refine hF.mono ?_
      clear hF
      rintro e w1 ⟨⟨cy, rfl, hcy, hon⟩, hb1⟩
      have hX := index_any G.length _ cy w1 hcy (by omega)
      have hb2 := hbw.trans (hb1.mono (by omega))
      have hrd1 := hrd.keep (Kp.of_below hb1 _)
      have hs1 := hb1.size
      clear hcy hb1 hrd hbw
      go_wp2_with fail
      refine hX.mono ?_
      clear hX
      rintro e w2 ⟨hix, hww⟩
      obtain rfl : w1 = w2 := hww.symm
      clear hww
      have HON : Hid (∀ v, v < G.length → (cy v = true ↔ ∃ d, Pth (Edg xs) (d + 1) v v)) := fun v hv => (hon v hv).trans (onc_iff hself)
      clear hon hself
      rcases hix with ⟨s, hs, rfl, hcs, hcl⟩ | ⟨rfl, hcl⟩
      · have HC : Hid (∃ d, Pth (Edg xs) (d + 1) s s) := (HON.out s hs).1 hcs
        have HNT : Hid (NoneTo xs s) := fun v hv d hp => by
          have := (HON.out v (by omega)).2 ⟨d, hp⟩
          rw [hcl v hv] at this
          cases this
        clear HON hcs hcl cy
        have hd : decide (((s : Nat) : Int) < 0) = false := decide_eq_false (by omega)
        have hmk2 := fun w => run_make_row' (P := Try.prog) 28 3 (.int .i64 0) 8 Try.underlying28 Try.info3 rfl .i64 .i64 G.length (by omega) (by omega) w
        go_wp2
        go_loopw [69] (fun i wr => ∃ k : Nat, k ≤ G.length ∧ i = .int .i64 (k : Nat) ∧ wr.rowIs w1.heap.size 3 G.length (fillTo (fun _ => .int .i64 (-1)) (fun _ => .int .i64 0) k) ∧ Below w1.heap.size w1 wr) (fun i _ => G.length - (intOf i).toNat)
        case atStart => exact ⟨0, Nat.zero_le _, rfl, fillTo_zero (World.rowIs_made w1 _ _ 3), (Below.refl _ _).alloc (Nat.le_refl _) _⟩
        case round =>
          clear hmk2 hd
          obtain ⟨wb, rfl⟩ : ∃ wb : World, wb = wr := ⟨_, rfl⟩
          obtain ⟨k, hk, rfl, hr, hb⟩ := hrel
          by_cases hlt : k < G.length
          · have hc := hr.cell hlt
            have hf := hr.frozen k
            have hr' := fillTo_step hr
            have hb' : Below w1.heap.size w1 (wb.setCell ⟨w1.heap.size, k, none⟩ (.int .i64 (-1))) := hb.setCell (by simp) _
            go_wp2
            go_roundw
            case rel => exact ⟨k + 1, by omega, by go_num, hr', hb'⟩
            case measure => simp [intOf]; omega
          · obtain rfl : k = G.length := by omega
            have hr' := fillTo_all hr
            have S0 := FS.start (ns := xs) hs hb hr'
            clear hr hr' hb hk hlt
            go_wp2
            generalize wb.alloc (.cells #[.int .i64 (s : Nat)] 3) = wq at S0 ⊢
            go_loopg [11] G.length (fun g v wr => ∃ q p m i fr, FS G.length w1 wr xs s v q p m i 0 fr ∧ G.length ≤ g + i)
            case atStart => exact ⟨_, _, _, _, _, S0, by omega⟩
            case round =>
              clear S0
              obtain ⟨wd, rfl⟩ : ∃ wd : World, wd = wr := ⟨_, rfl⟩
              obtain ⟨gA, rfl⟩ : ∃ j, j = gk := ⟨_, rfl⟩
              obtain ⟨q, p, m, i, fr, S, hgi⟩ := hrel
              obtain ⟨g, off, cap, rfl, hcap, hgb, hgl, hcm⟩ := S.que.form
              have hilt := S.ilt
              have hmn := S.le
              have c0 : wd.cell? ⟨g, off, none⟩ = some (.int .i64 (q i : Nat)) := S.que.cell (j := 0) (by omega)
              have hxn := S.lt i hilt
              obtain ⟨x, hx⟩ : ∃ x, q i = x := ⟨_, rfl⟩
              rw [hx] at c0 hxn
              have HX : Hid (q i = x) := hx
              obtain ⟨d, hd⟩ : ∃ d, m - i = d + 1 := ⟨m - i - 1, by omega⟩
              rw [hd] at S hcap ⊢
              clear hx hd
              rcases hrd1 with h0 | ⟨b, o, e1, h1, h2, h3⟩
              · omega
              cases e1
              obtain ⟨ai, ci, gx, rx⟩ := h3 x hxn
              rw [Nat.zero_add] at gx
              have gx' := (S.bel.cell (p := ⟨w.heap.size, x, none⟩) h2).trans gx
              have hdx := hdeg x hxn
              have HS : Hid (FS G.length w1 wd xs s (.slice (some ⟨g, off, none⟩) (d + 1) cap) q p m i 0 fr) := S
              clear S h3 gx
              go_wp2
              go_loopw [91, 11, 12] (fun kv v nv wr => ∃ (k : Nat) (q p : Nat → Nat) (m : Nat) (fr : Nat → Int), k ≤ (xs x).length ∧ kv = .int .i64 (k : Nat) ∧ nv = .int .i64 (x : Nat) ∧ FS G.length w1 wr xs s v q p m i k fr ∧ q i = x) (fun kv _ _ _ => (xs x).length - (intOf kv).toNat)
              case atStart => exact ⟨0, q, p, m, fr, Nat.zero_le _, rfl, rfl, HS.out, HX.out⟩
              case round =>
                clear HS HX c0 gx' hcap hgb hgl hcm hilt hmn
                obtain ⟨we, rfl⟩ : ∃ we : World, we = wr := ⟨_, rfl⟩
                clear fr p q
                obtain ⟨k, q, p, m', fr, hk, rfl, rfl, S, hqx⟩ := hrel
                have hmn := S.le
                have hilt := S.ilt
                by_cases hkl : k < (xs x).length
                · obtain ⟨y, hy⟩ : ∃ y, (xs x)[k]? = some y := ⟨_, List.getElem?_eq_getElem hkl⟩
                  have hyn := hrows x hxn y (List.mem_of_getElem? hy)
                  obtain ⟨b2, o2, rfl, hlo2, hb3, hc2⟩ := (rx.keep (Kp.of_below S.bel _)).at hy
                  have HY : Hid ((xs (q i))[k]? = some y) := by show _ = _; rw [hqx]; exact hy
                  have HQ : Hid (q i = x) := hqx
                  clear hy hqx
                  by_cases hys : y = s
                  · obtain rfl : s = y := hys.symm
                    have HCm : Hid (s ∈ xs (q i)) := List.mem_of_getElem? HY.out
                    obtain ⟨r, hr, hrn⟩ := S.chain
                    have HR : Hid (Chn p r i) := hr
                    obtain ⟨g, off, cap, rfl, hcap, hgb, hgl, hcm⟩ := S.que.form
                    have HS : Hid (FS G.length w1 we xs s (.slice (some ⟨g, off, none⟩) (m' - i) cap) q p m' i k fr) := S
                    have hbS := S.bel
                    have hrS := S.row
                    clear S hr HY
                    go_wp2
                    go_loopg [12, 15] r (fun g nv cv wr => ∃ j : Nat, j + g = r ∧ nv = .int .i64 (q (anc p j i) : Nat) ∧ wr.ownsRow (w1.heap.size + 1) 3 1 cv j (natL (chnL q p i j)) ∧ Below w1.heap.size w1 wr ∧ wr.rowIs w1.heap.size 3 G.length (fun z => .int .i64 (fr z)))
                    case atStart => exact ⟨0, by omega, by rw [← HQ.out]; rfl, World.ownsRow_nil _ _ _ _, hbS, hrS⟩
                    case round =>
                      clear hbS hrS
                      obtain ⟨wf, rfl⟩ : ∃ wf : World, wf = wr := ⟨_, rfl⟩
                      obtain ⟨gC, rfl⟩ : ∃ j, j = gk := ⟨_, rfl⟩
                      obtain ⟨j, hjg, rfl, ho, hb, hrw⟩ := hrel
                      have hszf := hrw.lt
                      have hlt := ho.lt
                      obtain ⟨av, cv, rfl⟩ := ownsRow_form ho
                      by_cases hj : j < r
                      · obtain ⟨u1, u2, u3⟩ := HS.out.up HCm.out HR.out hj
                        obtain ⟨z, hz⟩ : ∃ z, q (anc p j i) = z := ⟨_, rfl⟩
                        rw [hz] at u1 u2 u3
                        rw [hz]
                        have HZ : Hid (q (anc p j i) = z) := hz
                        clear hz
                        have hd : (((z : Nat) : Int) == ((s : Nat) : Int)) = false := beq_eq_false_iff_ne.2 (by omega)
                        have hoA := ho.alloc (.cells #[.int .i64 (z : Nat)] 3)
                        have hone := one_cell wf (.int .i64 (z : Nat)) 3
                        have hszA : w1.heap.size + 1 ≤ (wf.alloc (.cells #[.int .i64 (z : Nat)] 3)).heap.size := by simp; omega
                        go_wp2_with (at_builtin; refine wpList_append_grew _ rfl _ _ 28 rfl (w1.heap.size + 1) 3 _ 1 8 Try.underlying28 Try.info3 rfl (by omega) _ _ _ rfl hoA _ _ _ [.int .i64 (z : Nat)] rfl rfl hone (by simp [Value.oneCell']) (by unfold maxLen; omega) (by omega) hszA ?_)
                        intro v' w' ho' hg'
                        have hrw' := (hrw.alloc (.cells #[.int .i64 (z : Nat)] 3)).of_block (hg'.grown.block _ (by simp; omega) (fun e => by have := (hlt _ e.symm).1; omega))
                        have hb' := hg'.below (hb.alloc (by omega) (.cells #[.int .i64 (z : Nat)] 3)) (by simp; omega) (fun g e => by have := (hlt g e).1; omega)
                        have cf := hrw'.cell u3
                        rw [u1] at cf
                        have ho2 : w'.ownsRow (w1.heap.size + 1) 3 1 v' (j + 1) (natL (chnL q p i (j + 1))) := by rw [chnL_succ, natL_snoc, HZ.out]; exact ho'
                        obtain ⟨av', cv', rfl⟩ := ownsRow_form ho'
                        have hgC : 0 < gC := by omega
                        clear ho' hg' hoA hone hszA ho hb hrw
                        go_wp2
                        go_roundg (gC - 1)
                        case rel => exact ⟨j + 1, by omega, rfl, ho2, hb', hrw'⟩
                        case measure => omega
                      · obtain rfl : j = r := by omega
                        have htop := HS.out.top HR.out
                        rw [htop]
                        have HTP : Hid (q (anc p j i) = s) := htop
                        clear htop
                        have hoA := ho.alloc (.cells #[.int .i64 (s : Nat)] 3)
                        have hone := one_cell wf (.int .i64 (s : Nat)) 3
                        have hszA : w1.heap.size + 1 ≤ (wf.alloc (.cells #[.int .i64 (s : Nat)] 3)).heap.size := by simp; omega
                        go_wp2_with (at_builtin; refine wpList_append_grew _ rfl _ _ 28 rfl (w1.heap.size + 1) 3 _ 1 8 Try.underlying28 Try.info3 rfl (by omega) _ _ _ rfl hoA _ _ _ [.int .i64 (s : Nat)] rfl rfl hone (by simp [Value.oneCell']) (by unfold maxLen; omega) (by omega) hszA ?_)
                        intro v' w' ho' hg'
                        have hb' := hg'.below (hb.alloc (by omega) (.cells #[.int .i64 (s : Nat)] 3)) (by simp; omega) (fun g e => by have := (hlt g e).1; omega)
                        have ho2 : w'.ownsRow (w1.heap.size + 1) 3 1 v' (chnL q p i (j + 1)).length (natL (chnL q p i (j + 1))) := by rw [chnL_length, chnL_succ, natL_snoc, HTP.out]; exact ho'
                        rcases ho2.2 with ⟨_, h0⟩ | ⟨g', cap', cur, rfl, _⟩
                        · rw [chnL_length] at h0; omega
                        have hF := reverse_any (w1.heap.size + 1) g' cap' (chnL q p i (j + 1)) w' ho2 (by rw [chnL_length]; omega)
                        rw [chnL_length] at hF
                        have hszw' : w1.heap.size ≤ w'.heap.size := hb'.size
                        clear ho2 ho' hg' hoA hone hszA ho hb hrw
                        rw [chnL_length]
                        go_wp2_with fail
                        refine hF.mono ?_
                        clear hF
                        rintro e w'' ⟨rfl, ho3, hg3⟩
                        go_wp2
                        go_ret
                        exact ⟨RetFC.mk hs hrn (by omega) ho3 (HS.out.bfs.found HS.out.ilt HCm.out HR.out) HNT.out HE.out, hb2.trans ((hg3.below hb' hszw' (fun g e => by have := (ho3.lt g e).1; omega)).mono (by omega))⟩
                  · have hd2 : (((y : Nat) : Int) == ((s : Nat) : Int)) = false := beq_eq_false_iff_ne.2 (by omega)
                    have cf := S.row.cell hyn
                    have ff := S.row.frozen y
                    obtain ⟨f, hf⟩ : ∃ f, fr y = f := ⟨_, rfl⟩
                    rw [hf] at cf
                    by_cases hneg : f < 0
                    · have hd3 : decide (f < 0) = true := decide_eq_true hneg
                      obtain ⟨g, off, cap, rfl, hcap, hgb, hgl, hcm⟩ := S.que.form
                      have hqs := S.que.lt
                      have hsz := S.size
                      have hq1 : Que ((we.setCell ⟨w1.heap.size, y, none⟩ (.int .i64 (x : Nat))).alloc (.cells #[.int .i64 (y : Nat)] 3)) (w1.heap.size + 1) (.slice (some ⟨g, off, none⟩) (m' - i) cap) (m' - i) (fun j => q (i + j)) := (S.que.of_block (fun g hg => Deep.blk_setCell_other _ _ _ _ (by have := (hqs g hg).1; simp; omega))).alloc _
                      have hone := one_cell (we.setCell ⟨w1.heap.size, y, none⟩ (.int .i64 (x : Nat))) (.int .i64 (y : Nat)) 3
                      rw [Deep.nblk_setCell] at hone
                      have HSP : Hid (∀ w' v', Que w' (w1.heap.size + 1) v' (m' - i + 1) (upd (fun j => q (i + j)) (m' - i) y) → Grew ((we.setCell ⟨w1.heap.size, y, none⟩ (.int .i64 (x : Nat))).alloc (.cells #[.int .i64 (y : Nat)] 3)) w' (.slice (some ⟨g, off, none⟩) (m' - i) cap) v' →
                          FS G.length w1 w' xs s v' (upd q m' y) (upd p m' i) (m' + 1) i (k + 1) (upd fr y (q i : Nat))) := fun w' v' hq hg => S.push (by rw [HQ.out]; exact hsort x hxn) HY.out hys hyn (by omega) hq (by rw [HQ.out]; exact hg)
                      have hszq : w1.heap.size + 1 ≤ ((we.setCell ⟨w1.heap.size, y, none⟩ (.int .i64 (x : Nat))).alloc (.cells #[.int .i64 (y : Nat)] 3)).heap.size := by simp; omega
                      clear S hqs hf
                      go_wp2_with (at_builtin; refine wpList_append_que _ rfl _ _ 28 rfl Try.underlying28 Try.info3 (w1.heap.size + 1) _ _ _ rfl hq1 _ _ y rfl hone (by omega) hszq ?_)
                      intro v' w' hq' hg'
                      have S2 := HSP.out w' v' hq' hg'
                      obtain ⟨g', off', cap', rfl, _⟩ := hq'.form
                      clear HSP hg' hq' hq1 hone hszq
                      go_wp2
                      go_roundw
                      case rel => exact ⟨k + 1, _, _, m' + 1, _, by omega, by go_num, rfl, S2, by rw [upd_other _ _ _ (by omega)]; exact HQ.out⟩
                      case measure => simp [intOf]; omega
                    · have hd3 : decide (f < 0) = false := decide_eq_false hneg
                      have S2 := S.skip HY.out hys hyn (by omega)
                      clear hf S
                      go_wp2
                      go_roundw
                      case rel => exact ⟨k + 1, q, p, m', fr, by omega, by go_num, rfl, S2, HQ.out⟩
                      case measure => simp [intOf]; omega
                · obtain rfl : k = (xs x).length := by omega
                  have hlq : (xs (q i)).length ≤ (xs x).length := by rw [hqx]; exact Nat.le_refl _
                  have hmore := S.more hlq HC.out
                  obtain ⟨g, off, cap, rfl, hcap, hgb, hgl, hcm⟩ := S.que.form
                  have S2 := S.next hlq hmore
                  obtain ⟨d2, hd2⟩ : ∃ d2, m' - i = d2 + 1 := ⟨m' - i - 1, by omega⟩
                  have hd3 : m' - i - 1 = d2 := by omega
                  rw [hd2] at hcap ⊢
                  rw [hd3] at S2
                  clear S hd3
                  go_wp2
                  go_roundg (gA - 1)
                  case rel => exact ⟨q, p, m', i + 1, fr, S2, by omega⟩
                  case measure => omega
      · have HNT : Hid (NoneTo xs G.length) := fun v hv d hp => by
          have := (HON.out v hv).2 ⟨d, hp⟩
          rw [hcl v hv] at this
          cases this
        go_wp2
        go_ret
        exact ⟨.inl ⟨rfl, HNT.out.congr HE.out⟩, hb2⟩
end Go.Proofs.Qxb6602369a
