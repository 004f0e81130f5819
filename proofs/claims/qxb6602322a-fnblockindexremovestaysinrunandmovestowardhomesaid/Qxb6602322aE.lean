import Derived.Test.Qxb6602322aD
import Derived.RegionTactic
import Derived.BigRegion
namespace Go.Proofs.Qxb6602322a
open Go.RowKit

/-- The entries' cells. -/
def entV (I S : Nat → Int) : Nat → Value := fun i => if i % 2 = 0 then .int .u64 (I (i / 2)) else .int .i64 (S (i / 2))
/-- The record's cells. -/
def recV (N be : Nat) (sh n seed : Int) : Nat → Value
  | 0 => .slice (some ⟨be, 0, none⟩) N N
  | 1 => .int .i64 sh
  | 2 => .int .i64 n
  | _ => .int .u64 seed
theorem entV_id {w : World} {b t N : Nat} {I S : Nat → Int} (h : w.rowIs b t (N * 2) (entV I S)) {q : Nat} (hq : q < N) : w.cell? ⟨b, q * 2, none⟩ = some (.int .u64 (I q)) := by
  rw [h.cell (by omega)]; simp [entV]
theorem entV_slot {w : World} {b t N : Nat} {I S : Nat → Int} (h : w.rowIs b t (N * 2) (entV I S)) {q : Nat} (hq : q < N) : w.cell? ⟨b, q * 2 + 1, none⟩ = some (.int .i64 (S q)) := by
  rw [h.cell (by omega)]
  have h1 : (q * 2 + 1) % 2 = 1 := by omega
  have h2 : (q * 2 + 1) / 2 = q := by omega
  simp [entV, h1, h2]

/-- The home of an id as a place. -/
def hmP (lg : Nat) (seed : Int) (id : Int) : Nat := (homeZ (64 - (lg : Int)) seed id).toNat
theorem hmP_lt {lg N : Nat} (h : PowT lg N) (seed id : Int) : hmP lg seed id < N ∧ homeZ (64 - (lg : Int)) seed id = (hmP lg seed id : Int) := by
  obtain ⟨p, hp, e⟩ := home_lt h seed id
  unfold hmP; rw [e]; simp [hp]

theorem homeP_any {lg N : Nat} (hN : PowT lg N) (b : Nat) (seed id : Int) (w : World)
   (h1 : w.cell? ⟨b, 1, none⟩ = some (.int .i64 (64 - (lg : Int))))
   (h3 : w.cell? ⟨b, 3, none⟩ = some (.int .u64 seed)) :
    Calls Try.prog 32 #[.pointer (some ⟨b, 0, none⟩), .int .u64 id] w fun e w' => e = .returned (.int .i64 (hmP lg seed id : Int)) ∧ ∃ nq, w' = w.drewN nq := by
  have hl := hN.1
  have := home_any b (64 - (lg : Int)) seed id w h1 h3 (by omega) (by omega)
  rw [(hmP_lt hN seed id).2] at this
  exact this

theorem entV_store {w : World} {b t N : Nat} {I S : Nat → Int} (h : w.rowIs b t (N * 2) (entV I S)) {g : Nat} (_hg : g < N) (x y : Int) :
    ((w.setCell ⟨b, g * 2, none⟩ (.int .u64 x)).setCell ⟨b, g * 2 + 1, none⟩ (.int .i64 y)).rowIs b t (N * 2) (entV (upd I g x) (upd S g y)) :=
  ((h.set (g * 2) (.int .u64 x)).set (g * 2 + 1) (.int .i64 y)).congr fun j _ => by
    unfold entV upd
    by_cases e1 : j = g * 2 + 1
    · subst e1
      have h1 : (g * 2 + 1) % 2 = 1 := by omega
      have h2 : (g * 2 + 1) / 2 = g := by omega
      simp [h1, h2]
    · by_cases e2 : j = g * 2
      · subst e2
        simp
      · have h3 : ¬ j / 2 = g := by omega
        simp [e1, e2, h3]
theorem recV_n {w : World} {b t N be : Nat} {sh n seed : Int} (h : w.rowIs b t 4 (recV N be sh n seed)) (n' : Int) : (w.setCell ⟨b, 2, none⟩ (.int .i64 n')).rowIs b t 4 (recV N be sh n' seed) :=
  (h.set 2 (.int .i64 n')).congr fun j hj => by
    rcases (by omega : j = 0 ∨ j = 1 ∨ j = 2 ∨ j = 3) with rfl | rfl | rfl | rfl <;> simp [recV]

theorem rowIs_drewN {w : World} {b t n : Nat} {f : Nat → Value} (h : w.rowIs b t n f) (nq : Nat) : (w.drewN nq).rowIs b t n f :=
  h.of_block ((below_drewN (B := b + 1) (Below.refl _ w) nq).block b (by omega))

theorem inv_dst {N : Nat} {hm : Int → Nat} {I0 S0 : Nat → Int} {g0 : Nat} {I S : Nat → Int} {g i : Nat} (v : Inv N hm I0 S0 g0 I S g i) (hg0 : g0 < N) {e : Nat} (he : e < N) (hse : S0 e = 0) (hsi : S i ≠ 0) :
    dst N g0 (nxt N i) = dst N g0 i + 1 := by
  have hil := v.i_lt
  have hei : dst N g0 i < dst N g0 e := by
    rcases Nat.lt_trichotomy (dst N g0 i) (dst N g0 e) with h | h | h
    · exact h
    · have : i = e := by have a := dst_or N g0 i; have b := dst_or N g0 e; omega
      exact absurd ((v.pat e he).2 hse) (this ▸ hsi)
    · exact absurd hse (v.run e he h)
  have a := dst_or N g0 i; have b := dst_or N g0 e; have c := dst_or N g0 (nxt N i); have d := nxt_or N i; omega

set_option maxHeartbeats 400000 in
theorem remove_any (lg N bx be g0 e0 : Nat) (n seed id : Int) (I0 S0 : Nat → Int) (w : World) (hN : PowT lg N)
    (hx : w.rowIs bx 53 4 (recV N be (64 - (lg : Int)) n seed)) (he : w.rowIs be 55 (N * 2) (entV I0 S0)) (hne : bx ≠ be)
    (hn0 : 0 ≤ n) (hn1 : n ≤ 4096)
    (hgood : Good N (hmP lg seed) I0 S0) (hit : Hit N I0 S0 id (hmP lg seed id) g0) (he0 : e0 < N) (hs0 : S0 e0 = 0) :
    Calls Try.prog 31 #[.pointer (some ⟨bx, 0, none⟩), .int .u64 id] w fun e w' => e = .returned (.tuple #[]) ∧ ∃ (R RS : Nat → Int) (g e : Nat),
      Done N (hmP lg seed) I0 S0 g0 R RS g e ∧ w'.rowIs be 55 (N * 2) (entV R RS) ∧ w'.rowIs bx 53 4 (recV N be (64 - (lg : Int)) (n - 1) seed) ∧
      (∀ B, B ≤ bx → B ≤ be → Below B w w') := by
  have hpos := hN.pos
  have hle := hN.le
  have hc0 : w.cell? ⟨bx, 0, none⟩ = some (.slice (some ⟨be, 0, none⟩) N N) := hx.cell (by omega)
  have hc1 : w.cell? ⟨bx, 1, none⟩ = some (.int .i64 (64 - (lg : Int))) := hx.cell (by omega)
  have hc3 : w.cell? ⟨bx, 3, none⟩ = some (.int .u64 seed) := hx.cell (by omega)
  have hh := (hmP_lt hN seed id).1
  go_enter Try.func31, Try.ntmps31
  go_wp2_with (go_at_call 32; refine (homeP_any hN _ seed id _ (by exact hc1) (by exact hc3)).mono ?_; rintro e w' ⟨rfl, nq, rfl⟩)
  have hb1' : ∀ B, Below B w (w.drewN nq) := fun B => below_drewN (Below.refl _ _) _
  obtain ⟨w1, hw1⟩ : ∃ w1, w1 = w.drewN nq := ⟨_, rfl⟩
  rw [← hw1] at hb1' ⊢
  have hx1 : w1.rowIs bx 53 4 (recV N be (64 - (lg : Int)) n seed) := hx.of_block ((hb1' (bx + 1)).block bx (by omega))
  have he1 : w1.rowIs be 55 (N * 2) (entV I0 S0) := he.of_block ((hb1' (be + 1)).block be (by omega))
  clear hw1 hc0 hc1 hc3 hx he
  have hc0 : w1.cell? ⟨bx, 0, none⟩ = some (.slice (some ⟨be, 0, none⟩) N N) := hx1.cell (by omega)
  obtain ⟨hg0, hsg, hig, hpath⟩ := hit
  go_loop [5] (fun v => ∃ q : Nat, q < N ∧ v = .int .i64 q ∧ dst N (hmP lg seed id) q ≤ dst N (hmP lg seed id) g0) (fun v => dst N (intOf v).toNat g0)
  case atStart => exact ⟨_, hh, rfl, by rw [dst_self]; omega⟩
  case round =>
    obtain ⟨q, hq, rfl, hd⟩ := hrel
    have hcI := entV_id he1 hq
    have hcS := entV_slot he1 hq
    by_cases e : q = g0
    · subst e
      have hb1 : (S0 q == 0) = false := beq_eq_false_iff_ne.2 hsg
      have hb2 : (I0 q != id) = false := by simp [hig]
      have HI : Hid (Inv N (hmP lg seed) I0 S0 q I0 S0 q (nxt N q)) := inv_start hgood (fun x => (hmP_lt hN seed x).1) hg0 hsg he0 hs0
      clear hpath hgood hsg hig
      go_wp2
      rw [show bits BinOp.and IntKind.i64 ((q : Int) + 1) ((N : Int) - 1) = ((nxt N q : Nat) : Int) by rw [and_mask hN, ← nxt_mod hq]; simp]
      have hbel : ∀ B, B ≤ bx → B ≤ be → Below B w w1 := fun B _ _ => hb1' B
      have hhm : ∀ x, hmP lg seed x < N := fun x => (hmP_lt hN seed x).1
      have HB : Hid (∀ B, B ≤ bx → B ≤ be → Below B w w1) := hbel
      clear hbel hb1' hcI hcS hc0
      go_loopw [5, 6] (fun gv iv wr => ∃ (I S : Nat → Int) (g i : Nat), gv = .int .i64 g ∧ iv = .int .i64 i ∧ Hid (Inv N (hmP lg seed) I0 S0 q I S g i) ∧ wr.rowIs be 55 (N * 2) (entV I S) ∧ wr.rowIs bx 53 4 (recV N be (64 - (lg : Int)) n seed) ∧ Hid (∀ B, B ≤ bx → B ≤ be → Below B w wr)) (fun _ iv _ => N - dst N q (intOf iv).toNat)
      case atStart => exact ⟨I0, S0, q, nxt N q, rfl, rfl, HI, he1, hx1, HB⟩
      case round =>
        obtain ⟨I, S, g, i, rfl, rfl, HV, her, hxr, HBr⟩ := hrel
        have hgl := HV.out.g_lt
        have hil := HV.out.i_lt
        have hcS := entV_slot her hil
        have hcI := entV_id her hil
        have hgS := entV_slot her hgl
        have hgI := entV_id her hgl
        have hfI := her.frozen (g * 2)
        have hfS := her.frozen (g * 2 + 1)
        have hc0 : wr.cell? ⟨bx, 0, none⟩ = some (.slice (some ⟨be, 0, none⟩) N N) := hxr.cell (by omega)
        have hc1 : wr.cell? ⟨bx, 1, none⟩ = some (.int .i64 (64 - (lg : Int))) := hxr.cell (by omega)
        have hc2 : wr.cell? ⟨bx, 2, none⟩ = some (.int .i64 n) := hxr.cell (by omega)
        have hc3 : wr.cell? ⟨bx, 3, none⟩ = some (.int .u64 seed) := hxr.cell (by omega)
        have hf2 := hxr.frozen 2
        clear HB HI he1 hx1
        by_cases hsi : S i = 0
        · have hb3 : (S i != 0) = false := by simp [hsi]
          have hsi' : Hid (S i = 0) := hsi
          clear hsi
          go_wp2
          go_end0
          have hd := inv_end HV.out hhm hg0 hsi'
          exact ⟨rfl, _, _, g, i, hd, (entV_store her hgl 0 0).setOther (fun e => hne e.symm) _, recV_n ((hxr.setOther (a := ⟨be, g * 2, none⟩) hne _).setOther (a := ⟨be, g * 2 + 1, none⟩) hne _) _,
            fun B h1 h2 => (((HBr.out B h1 h2).setCell (p := ⟨be, g * 2, none⟩) h2 _).setCell (p := ⟨be, g * 2 + 1, none⟩) h2 _).setCell (p := ⟨bx, 2, none⟩) h1 _⟩
        · have hb3 : (S i != 0) = true := by rw [bne_iff_ne]; exact hsi
          have hhi := hhm (I i)
          go_wp2_with (go_at_call 32; refine (homeP_any hN _ seed (I i) _ (by exact hc1) (by exact hc3)).mono ?_; rintro e w' ⟨rfl, nq, rfl⟩)
          · have hle2 : bits BinOp.and IntKind.i64 ((i : Int) - (g : Int)) ((N : Int) - 1) ≤ bits BinOp.and IntKind.i64 ((i : Int) - (hmP lg seed (I i) : Int)) ((N : Int) - 1) := by assumption
            rw [and_mask hN, and_mask hN, dst_int hgl hil, dst_int hhi hil] at hle2
            have HV2 : Hid (Inv N (hmP lg seed) I0 S0 q (upd I g (I i)) (upd S g (S i)) i (nxt N i)) := inv_move HV.out hhm hg0 he0 hs0 hsi (by omega)
            have hdd := inv_dst HV.out hg0 he0 hs0 hsi
            have HD : Hid (dst N q (nxt N i) = dst N q i + 1) := hdd
            obtain ⟨w2, hw2⟩ : ∃ w2, w2 = wr.drewN nq := ⟨_, rfl⟩
            rw [← hw2]
            have her2 : w2.rowIs be 55 (N * 2) (entV I S) := by rw [hw2]; exact rowIs_drewN her nq
            have hxr2 : w2.rowIs bx 53 4 (recV N be (64 - (lg : Int)) n seed) := by rw [hw2]; exact rowIs_drewN hxr nq
            have HB2 : Hid (∀ B, B ≤ bx → B ≤ be → Below B w w2) := by rw [hw2]; exact fun B h1 h2 => below_drewN (HBr.out B h1 h2) _
            clear hw2 hcS hcI hgS hgI hfI hfS hc0 hc1 hc2 hc3 hf2 her hxr HBr hle2 hsi hb3 hdd HV
            have hcS := entV_slot her2 hil
            have hcI := entV_id her2 hil
            have hgS := entV_slot her2 hgl
            have hgI := entV_id her2 hgl
            have hfI := her2.frozen (g * 2)
            have hfS := her2.frozen (g * 2 + 1)
            have hc0 : w2.cell? ⟨bx, 0, none⟩ = some (.slice (some ⟨be, 0, none⟩) N N) := hxr2.cell (by omega)
            go_region
            go_wp2
            go_roundw
            case rel => exact ⟨_, _, i, nxt N i, rfl, by rw [and_mask hN, ← nxt_mod hil]; simp, HV2, (entV_store her2 hgl (I i) (S i)).drew, ((hxr2.setOther (a := ⟨be, g * 2, none⟩) hne _).setOther (a := ⟨be, g * 2 + 1, none⟩) hne _).drew,
              fun B h1 h2 => (((HB2.out B h1 h2).setCell (p := ⟨be, g * 2, none⟩) h2 _).setCell (p := ⟨be, g * 2 + 1, none⟩) h2 _).drew⟩
            case measure =>
              rw [and_mask hN]
              have e1 : (((i : Int) + 1) % (N : Int)) = ((nxt N i : Nat) : Int) := by rw [← nxt_mod hil]; simp
              rw [e1]
              have := HD.out
              have := dst_lt hg0 (nxt_lt hil)
              simp [intOf]; omega
          · have hle2 : bits BinOp.and IntKind.i64 ((i : Int) - (hmP lg seed (I i) : Int)) ((N : Int) - 1) < bits BinOp.and IntKind.i64 ((i : Int) - (g : Int)) ((N : Int) - 1) := by assumption
            rw [and_mask hN, and_mask hN, dst_int hgl hil, dst_int hhi hil] at hle2
            have HV2 : Hid (Inv N (hmP lg seed) I0 S0 q I S g (nxt N i)) := inv_stay HV.out hhm hg0 he0 hs0 hsi (by omega)
            go_roundw
            case rel => exact ⟨I, S, g, nxt N i, rfl, by rw [and_mask hN, ← nxt_mod hil]; simp, HV2, rowIs_drewN her nq, rowIs_drewN hxr nq, fun B h1 h2 => below_drewN (HBr.out B h1 h2) _⟩
            case measure =>
              rw [and_mask hN]
              have e1 : (((i : Int) + 1) % (N : Int)) = ((nxt N i : Nat) : Int) := by rw [← nxt_mod hil]; simp
              rw [e1]
              have := inv_dst HV.out hg0 he0 hs0 hsi
              have := dst_lt hg0 (nxt_lt hil)
              simp [intOf]; omega
    · obtain ⟨h1, h2⟩ := hpath q hq (by
        have a := dst_or N (hmP lg seed id) q; have b := dst_or N (hmP lg seed id) g0; omega)
      have hb1 : (S0 q == 0) = false := beq_eq_false_iff_ne.2 h1
      have hb2 : (I0 q != id) = true := by rw [bne_iff_ne]; exact h2
      clear hpath hgood h1 h2
      go_wp2
      rw [show bits BinOp.and IntKind.i64 ((q : Int) + 1) ((N : Int) - 1) = ((nxt N q : Nat) : Int) by rw [and_mask hN, ← nxt_mod hq]; simp]
      go_round
      case rel => exact ⟨nxt N q, nxt_lt hq, rfl, by
        have a := dst_or N (hmP lg seed id) q; have b := dst_or N (hmP lg seed id) g0; have c := dst_or N (hmP lg seed id) (nxt N q); have d := nxt_or N q; omega⟩
      case measure =>
        have := dst_nxt hq hg0 e
        simp [intOf]; omega
end Go.Proofs.Qxb6602322a
