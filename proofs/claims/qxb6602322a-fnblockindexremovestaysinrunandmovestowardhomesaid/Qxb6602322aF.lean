import Derived.Test.Qxb6602322aE
namespace Go.Proofs.Qxb6602322a
open Go.RowKit

theorem Try.info55 : (Try.prog.info? 55).map (fun i => (i.zero, i.size, i.bytes)) = some (some (.agg #[.int .u64 0, .int .i64 0]), 2, 16) := by kernel_rfl

/-- 'make' of the entries. -/
theorem make_ents (N : Nat) (hN : N ≤ 4096) (w : World) : (Instr.makeSlice 51 (.int .i64 (N : Int)) (.int .i64 (N : Int))).run Try.prog w =
    .ok (.slice (some ⟨w.heap.size, 0, none⟩) N N) (w.alloc (.cells (madeCells #[.int .u64 0, .int .i64 0] (N * 2)) 55)) := by
  obtain ⟨i, hi, hz0, hz1, hz2⟩ := info_parts Try.info55
  have := run_make (P := Try.prog) w 51 55 i _ Try.underlying51 hi hz0 .i64 .i64 (N : Int) (N : Int) (by omega) (Int.le_refl _) (by rw [hz2]; omega) (by omega)
  rw [hz1] at this
  simpa [Value.cells] using this

theorem made_ents (w : World) (N : Nat) : (w.alloc (.cells (madeCells #[.int .u64 0, .int .i64 0] (N * 2)) 55)).rowIs w.heap.size 55 (N * 2) (entV (fun _ => 0) (fun _ => 0)) :=
  ⟨_, Deep.blk_alloc_new _ _, size_madeCells _ _, fun i hi => by
    have : i % 2 = 0 ∨ i % 2 = 1 := by omega
    rcases this with h | h <;> simp [madeCells, hi, entV, h]⟩

/-- A function that is being filled from its head. -/
def fillZ (f : Nat → Int) (k : Nat) : Nat → Int := fun j => if j < k then f j else 0
theorem fillZ_step (f : Nat → Int) (k : Nat) : upd (fillZ f k) k (f k) = fillZ f (k + 1) := by
  funext j
  unfold upd fillZ
  by_cases e : j = k
  · subst e; simp
  · by_cases l : j < k
    · simp [e, l, (by omega : j < k + 1)]
    · simp [e, l]; intro h'; omega
theorem fillZ_zero (f : Nat → Int) : fillZ f 0 = fun _ => 0 := by funext j; simp [fillZ]
theorem entV_all {w : World} {b t N : Nat} {I S : Nat → Int} (h : w.rowIs b t (N * 2) (entV (fillZ I N) (fillZ S N))) : w.rowIs b t (N * 2) (entV I S) :=
  h.congr fun j hj => by
    have : j / 2 < N := by omega
    simp [entV, fillZ, this]

set_option maxHeartbeats 1000000 in
theorem zzremove_any (lg N b0 o0 c0 b1 o1 c1 g0 e0 : Nat) (n seed id : Int) (I0 S0 : Nat → Int) (w : World) (hN : PowT lg N)
    (hI : ∀ i, i < N → w.cell? ⟨b0, o0 + i, none⟩ = some (.int .u64 (I0 i))) (hS : ∀ i, i < N → w.cell? ⟨b1, o1 + i, none⟩ = some (.int .i64 (S0 i)))
    (hb0 : b0 < w.heap.size) (hb1 : b1 < w.heap.size)
    (hn0 : 0 ≤ n) (hn1 : n ≤ 4096)
    (hgood : Good N (hmP lg seed) I0 S0) (hit : Hit N I0 S0 id (hmP lg seed id) g0) (he0 : e0 < N) (hs0 : S0 e0 = 0) :
    Calls Try.prog 26 #[.slice (some ⟨b0, o0, none⟩) N c0, .slice (some ⟨b1, o1, none⟩) N c1, .int .i64 (64 - (lg : Int)), .int .i64 n, .int .u64 seed, .int .u64 id] w fun e w' =>
      ∃ (R RS : Nat → Int) (g e1 bi bs : Nat), e = .returned (.tuple #[.slice (some ⟨bi, 0, none⟩) N N, .slice (some ⟨bs, 0, none⟩) N N, .int .i64 (64 - (lg : Int)), .int .i64 (n - 1), .int .u64 seed]) ∧
      Done N (hmP lg seed) I0 S0 g0 R RS g e1 ∧ w'.rowIs bi 25 N (fun i => .int .u64 (R i)) ∧ w'.rowIs bs 3 N (fun i => .int .i64 (RS i)) ∧ Below w.heap.size w w' := by
  have hpos := hN.pos
  have hle := hN.le
  have hlg := hN.1
  have hmk := make_ents N hle
  go_enter Try.func26, Try.ntmps26
  go_wp2
  go_loopw [18] (fun kv wr => ∃ k : Nat, k ≤ N ∧ kv = .int .i64 k ∧ wr.rowIs w.heap.size 55 (N * 2) (entV (fillZ I0 k) (fillZ S0 k)) ∧ wr.rowIs (w.heap.size + 1) 53 4 (recV N w.heap.size (64 - (lg : Int)) n seed) ∧ Below w.heap.size w wr) (fun kv _ => N - (intOf kv).toNat)
  case atStart =>
    refine ⟨0, Nat.zero_le _, rfl, by rw [fillZ_zero, fillZ_zero]; exact (made_ents w N).alloc _, ?_, ((Below.refl _ _).alloc (Nat.le_refl _) _).alloc (by simp) _⟩
    have h := World.rowIs_alloc (w.alloc (.cells (madeCells #[.int .u64 0, .int .i64 0] (N * 2)) 55)) #[.slice (some ⟨w.heap.size, 0, none⟩) N N, .int .i64 (64 - (lg : Int)), .int .i64 n, .int .u64 seed] 53 (recV N w.heap.size (64 - (lg : Int)) n seed) (fun i hi => by
      have hi' : i < 4 := hi
      rcases (by omega : i = 0 ∨ i = 1 ∨ i = 2 ∨ i = 3) with rfl | rfl | rfl | rfl <;> simp [recV])
    simpa using h
  case round =>
    obtain ⟨k, hk, rfl, her, hxr, hbw⟩ := hrel
    have hsz := hbw.size
    by_cases hlt : k < N
    · have hIk := (hbw.cell (p := ⟨b0, o0 + k, none⟩) hb0).trans (hI k hlt)
      have hSk := (hbw.cell (p := ⟨b1, o1 + k, none⟩) hb1).trans (hS k hlt)
      have hgS := entV_slot her hlt
      have hgI := entV_id her hlt
      have hfI := her.frozen (k * 2)
      have hfS := her.frozen (k * 2 + 1)
      have hc0 : wr.cell? ⟨w.heap.size + 1, 0, none⟩ = some (.slice (some ⟨w.heap.size, 0, none⟩) N N) := hxr.cell (by omega)
      clear hI hS hmk hgood hit
      go_wp2
      go_region
      go_wp2
      go_roundw
      case rel =>
        refine ⟨k + 1, by omega, by go_num, ?_, ((hxr.setOther (a := ⟨w.heap.size, k * 2, none⟩) (by simp) _).setOther (a := ⟨w.heap.size, k * 2 + 1, none⟩) (by simp) _).drew, ((hbw.setCell (p := ⟨w.heap.size, k * 2, none⟩) (Nat.le_refl _) _).setCell (p := ⟨w.heap.size, k * 2 + 1, none⟩) (Nat.le_refl _) _).drew⟩
        have h := (entV_store her hlt (I0 k) (S0 k)).drew
        rw [fillZ_step, fillZ_step] at h
        exact h
      case measure => simp [intOf]; omega
    · obtain rfl : k = N := by omega
      have her1 := entV_all her
      have hrem := remove_any lg k (w.heap.size + 1) w.heap.size g0 e0 n seed id I0 S0 wr hN hxr her1 (by omega) hn0 hn1 hgood hit he0 hs0
      clear her hI hS hmk hgood hit
      have hmk1 := fun w => run_make_row' (P := Try.prog) 31 25 (.int .u64 0) 8 Try.underlying31 Try.info25 rfl .i64 .i64 k (by omega) (by omega) w
      have hmk2 := fun w => run_make_row' (P := Try.prog) 40 3 (.int .i64 0) 8 Try.underlying40 Try.info3 rfl .i64 .i64 k (by omega) (by omega) w
      go_wp2_with (go_at_call 31; refine hrem.mono ?_; rintro e w3 ⟨rfl, R, RS, g, e1, hdone, her3, hxr3, hb3⟩; have hc0 : w3.cell? ⟨w.heap.size + 1, 0, none⟩ = some (.slice (some ⟨w.heap.size, 0, none⟩) k k) := hxr3.cell (by omega); have hl3 := hxr3.lt; have hl4 := her3.lt)
      have HD : Hid (Done k (hmP lg seed) I0 S0 g0 R RS g e1) := hdone
      have hbel := hbw.trans (hb3 w.heap.size (by omega) (Nat.le_refl _))
      clear hdone hrem her1 hxr hb3 hmk1 hmk2 hbw hc0
      go_loopw [21] (fun jv wr => ∃ j : Nat, j ≤ k ∧ jv = .int .i64 j ∧ wr.rowIs w3.heap.size 25 k (fillTo (fun i => .int .u64 (R i)) (.int .u64 0) j) ∧ wr.rowIs (w3.heap.size + 1) 3 k (fillTo (fun i => .int .i64 (RS i)) (.int .i64 0) j) ∧
        wr.rowIs w.heap.size 55 (k * 2) (entV R RS) ∧ wr.rowIs (w.heap.size + 1) 53 4 (recV k w.heap.size (64 - (lg : Int)) (n - 1) seed) ∧ Below w.heap.size w wr) (fun jv _ => k - (intOf jv).toNat)
      case atStart =>
        refine ⟨0, Nat.zero_le _, rfl, ((World.rowIs_made w3 (.int .u64 0) k 25).alloc _).congr fun _ _ => by simp [fillTo], ?_, (her3.alloc _).alloc _, (hxr3.alloc _).alloc _, (hbel.alloc (by omega) _).alloc (by simp; omega) _⟩
        have h := World.rowIs_made (w3.alloc (.cells (madeCells #[.int .u64 0] k) 25)) (.int .i64 0) k 3
        have h2 : (w3.alloc (.cells (madeCells #[.int .u64 0] k) 25)).heap.size = w3.heap.size + 1 := by simp
        rw [h2] at h
        exact h.congr fun _ _ => by simp [fillTo]
      case round =>
        obtain ⟨j, hj, rfl, hri, hrs, her4, hxr4, hb4⟩ := hrel
        have hc0 : wr.cell? ⟨w.heap.size + 1, 0, none⟩ = some (.slice (some ⟨w.heap.size, 0, none⟩) k k) := hxr4.cell (by omega)
        by_cases hlt : j < k
        · have hcI := entV_id her4 hlt
          have hcS := entV_slot her4 hlt
          have h1 := hri.cell hlt
          have h2 := hri.frozen j
          have h3 := hrs.cell hlt
          have h4 := hrs.frozen j
          have hne1 : w3.heap.size ≠ w.heap.size := by omega
          have hne2 : w3.heap.size ≠ w.heap.size + 1 := by omega
          have hR1 := (fillTo_step hri).setOther (a := ⟨w3.heap.size + 1, j, none⟩) (by simp) (.int .i64 (RS j))
          have hR2 := fillTo_step (hrs.setOther (a := ⟨w3.heap.size, j, none⟩) (by simp) (.int .u64 (R j)))
          have hR3 := (her4.setOther (a := ⟨w3.heap.size, j, none⟩) (fun e => hne1 e.symm) (.int .u64 (R j))).setOther (a := ⟨w3.heap.size + 1, j, none⟩) (by show w.heap.size ≠ w3.heap.size + 1; omega) (.int .i64 (RS j))
          have hR4 := (hxr4.setOther (a := ⟨w3.heap.size, j, none⟩) (fun e => hne2 e.symm) (.int .u64 (R j))).setOther (a := ⟨w3.heap.size + 1, j, none⟩) (by show w.heap.size + 1 ≠ w3.heap.size + 1; omega) (.int .i64 (RS j))
          clear hri hrs her4 hxr4
          go_wp2
          go_roundw
          case rel => exact ⟨j + 1, by omega, by go_num, hR1, hR2, hR3, hR4, (hb4.setCell (p := ⟨w3.heap.size, j, none⟩) (by show w.heap.size ≤ w3.heap.size; omega) _).setCell (p := ⟨w3.heap.size + 1, j, none⟩) (by show w.heap.size ≤ w3.heap.size + 1; omega) _⟩
          case measure => simp [intOf]; omega
        · obtain rfl : j = k := by omega
          have hc1 : wr.cell? ⟨w.heap.size + 1, 1, none⟩ = some (.int .i64 (64 - (lg : Int))) := hxr4.cell (by omega)
          have hc2 : wr.cell? ⟨w.heap.size + 1, 2, none⟩ = some (.int .i64 (n - 1)) := hxr4.cell (by omega)
          have hc3 : wr.cell? ⟨w.heap.size + 1, 3, none⟩ = some (.int .u64 seed) := hxr4.cell (by omega)
          go_wp2
          go_quiet (fail)
          go_wp2
          exact bodyPost_ret (v := .tuple #[.slice (some ⟨w3.heap.size, 0, none⟩) j j, .slice (some ⟨w3.heap.size + 1, 0, none⟩) j j, .int .i64 (64 - (lg : Int)), .int .i64 (n - 1), .int .u64 seed]) (by simp [results, Try.results26, go_sem]) rfl
            ⟨R, RS, g, e1, w3.heap.size, w3.heap.size + 1, rfl, HD.out, rowIs_drewN (fillTo_all hri) nq, rowIs_drewN (fillTo_all hrs) nq, below_drewN hb4 nq⟩
end Go.Proofs.Qxb6602322a
