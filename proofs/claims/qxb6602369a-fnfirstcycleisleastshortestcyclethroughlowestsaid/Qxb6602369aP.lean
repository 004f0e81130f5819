import Derived.Test.Qxb6602369aO
namespace Go.Proofs.Qxb6602369a
open Go.RowKit

/-- The blocks from B on, but that of the stack, are as they were. -/
def Oth (B : Nat) (w w' : World) (sv : Value) : Prop := w.heap.size ≤ w'.heap.size ∧ ∀ k, B ≤ k → k < w.heap.size → some k ≠ sv.ownBlock → w'.heap[k]? = w.heap[k]?
/-- What entering a node does. -/
def EntP (B n : Nat) (w0 w w' : World) (r l : Nat → Nat) (os cy : Nat → Bool) (sv : Value) (z : Nat) (st : Nat → Nat) (cnt m : Nat) : Prop :=
  ∃ sv', TM B n w0 w' (upd r m (cnt + 1)) (upd l m (cnt + 1)) (upd os m true) cy sv' (z + 1) (upd st z m) (cnt + 1) ∧ Oth (B + 9) w w' sv

theorem Own.snocN {w : World} {base e : Nat} {v : Value} {z m : Nat} {st : Nat → Nat} (h : w.ownsRow base e 1 v (z + 1) ((List.range z).map (fun j => .int .i64 (st j : Nat)) ++ [.int .i64 (m : Nat)])) : Own w base e 1 v (z + 1) (fun j => .int .i64 (upd st z m j : Nat)) := by
  rw [← Nat.mul_one z] at h
  rw [show z * 1 + 1 = z + 1 by omega] at h
  refine Own.snoc h rfl (fun j hj => ?_) (fun j hj => ?_)
  · rw [upd_other _ _ _ (by omega)]
  · obtain rfl : j = 0 := by omega
    rw [Nat.mul_one, Nat.add_zero, upd_same]
    rfl
theorem Try.info66 : (Try.prog.info? 66).map (fun i => (i.zero, i.size, i.bytes)) = some (some (.agg #[.int .i64 0, .int .i64 0]), 2, 16) := by kernel_rfl

set_option maxRecDepth 100000 in
set_option maxHeartbeats 1000000 in
theorem enter_any {B n : Nat} {w0 w : World} {r l : Nat → Nat} {os cy : Nat → Bool} {sv : Value} {z : Nat} {st : Nat → Nat} {cnt : Nat} (T : TM B n w0 w r l os cy sv z st cnt) (m : Nat) (hm : m < n) (hz : z ≤ 100000) (hc : cnt ≤ 100000) :
    Calls Try.prog 40 #[.int .i64 (m : Nat), .pointer (some ⟨B + 8, 0, none⟩), .pointer (some ⟨B + 1, 0, none⟩), .pointer (some ⟨B + 3, 0, none⟩), .pointer (some ⟨B + 7, 0, none⟩), .pointer (some ⟨B + 5, 0, none⟩)] w fun e w' =>
      e = .returned (.agg #[.int .i64 (m : Nat), .int .i64 0]) ∧ EntP B n w0 w w' r l os cy sv z st cnt m := by
  obtain ⟨x, hx⟩ : ∃ x : Nat, x = cnt + 1 := ⟨_, rfl⟩
  have hxi : (cnt : Int) + 1 = (x : Int) := by omega
  have HX : Hid (x = cnt + 1) := hx
  have T1 := T.alloc (.cells #[.int .i64 0, .int .i64 0] 66)
  have c8 := T1.vc.cell (i := 0) (by omega)
  have f8 := T1.vc.frozen 0
  have T2 := T1.setN x
  have hs2 : w.heap.size + 1 = ((w.alloc (.cells #[.int .i64 0, .int .i64 0] 66)).setCell ⟨B + 8, 0, none⟩ (.int .i64 (x : Int))).heap.size := by simp
  have hr2 : ((w.alloc (.cells #[.int .i64 0, .int .i64 0] 66)).setCell ⟨B + 8, 0, none⟩ (.int .i64 (x : Int))).rowIs w.heap.size 66 2 (fun _ => .int .i64 0) :=
    World.rowIs.setOther (World.rowIs_alloc w #[.int .i64 0, .int .i64 0] 66 (fun _ => .int .i64 0) (fun i hi => by
      have : i = 0 ∨ i = 1 := by simp at hi; omega
      rcases this with rfl | rfl <;> rfl)) (by have := T.size; simp; omega) _
  have ho2 : Oth (B + 9) w ((w.alloc (.cells #[.int .i64 0, .int .i64 0] 66)).setCell ⟨B + 8, 0, none⟩ (.int .i64 (x : Int))) sv :=
    ⟨by rw [← hs2]; omega, fun k h1 h2 _ => (Below.heap_setCell _ _ _ _ (by simp; omega)).trans (Below.heap_alloc _ _ _ h2)⟩
  clear hx
  go_enter Try.func40, Try.ntmps40
  go_wp2
  generalize (w.alloc (.cells #[.int .i64 0, .int .i64 0] 66)).setCell ⟨B + 8, 0, none⟩ (.int .i64 (x : Int)) = w2 at T2 hs2 hr2 ho2 ⊢
  have c1 := T2.vr.cell (i := 0) (by omega)
  have c3 := T2.vl.cell (i := 0) (by omega)
  have c8' := T2.vc.cell (i := 0) (by omega)
  have cr := T2.mr.cell hm
  have fr := T2.mr.frozen m
  have cl := (T2.setR m x).ml.cell hm
  have fl := (T2.setR m x).ml.frozen m
  go_region
  clear c1 c3 c8' cr fr cl fl
  have T3 := ((T2.setR m x).setL m x).drew
  have hr3 := ((hr2.setOther (a := ⟨B, m, none⟩) (by have := T.size; simp; omega) (.int .i64 (x : Int))).setOther (a := ⟨B + 2, m, none⟩) (by have := T.size; simp; omega) (.int .i64 (x : Int))).drew
  have ho3 : Oth (B + 9) w ((w2.setCell ⟨B, m, none⟩ (.int .i64 (x : Int))).setCell ⟨B + 2, m, none⟩ (.int .i64 (x : Int))).drew sv :=
    ⟨by have := ho2.1; simpa using this, fun k h1 h2 h3 => ((Below.heap_setCell _ _ _ _ (by simp; omega)).trans (Below.heap_setCell _ _ _ _ (by simp; omega))).trans (ho2.2 k h1 h2 h3)⟩
  generalize ((w2.setCell ⟨B, m, none⟩ (.int .i64 (x : Int))).setCell ⟨B + 2, m, none⟩ (.int .i64 (x : Int))).drew = w3 at T3 hr3 ho3 ⊢
  clear T2 hr2 ho2 hs2 T1 c8 f8
  have c7 := T3.vs.cell (i := 0) (by omega)
  have hone := one_cell w3 (.int .i64 (m : Int)) 3
  have T4 := T3.alloc (.cells #[.int .i64 (m : Int)] 3)
  have hown : (w3.alloc (.cells #[.int .i64 (m : Int)] 3)).ownsRow (B + 9) 3 1 sv z ((List.range z).map fun j => .int .i64 (st j : Nat)) := by have h := T4.own; unfold Own at h; rw [Nat.mul_one] at h; exact h
  have hal : B + 9 ≤ (w3.alloc (.cells #[.int .i64 (m : Int)] 3)).heap.size := T4.size
  have hsvb : ∀ k, sv.ownBlock = some k → B + 9 ≤ k := fun k hk => (T4.own.lt k hk).1
  have hne : some w.heap.size ≠ sv.ownBlock := fun e => by have := (T.own.lt _ e.symm).2; omega
  have hw3 : w.heap.size < w3.heap.size := hr3.lt
  go_wp2_with (at_builtin; refine wpList_append_grew _ rfl _ _ 28 rfl (B + 9) 3 _ 1 8 Try.underlying28 Try.info3 rfl (by omega) _ _ _ rfl hown _ _ _ [.int .i64 (m : Int)] rfl rfl hone (by simp [Value.oneCell']) (by unfold maxLen; omega) (by omega) hal ?_)
  intro sv' w5 hown' hgr
  have hown5 : Own w5 (B + 9) 3 1 sv' (z + 1) (fun j => .int .i64 (upd st z m j : Nat)) := Own.snocN hown'
  have hfresh : ∀ k, sv'.ownBlock = some k → k ≠ w.heap.size := fun k hk e => by
    rcases hgr.blk with h | ⟨k', h, hk'⟩
    · rw [h] at hk; exact hne (by rw [← e]; exact hk.symm)
    · rw [h] at hk; cases hk; simp at hk'; omega
  obtain ⟨g5, cap5, rfl, hg5⟩ := hown5.form (by omega)
  have HG : Hid (g5 ≠ w.heap.size) := hfresh g5 rfl
  clear hfresh
  have hkb : ∀ k, k < w3.heap.size → some k ≠ sv.ownBlock → w5.heap[k]? = w3.heap[k]? := fun k h1 h2 => (hgr.grown.block k (by simp; omega) h2).trans (Below.heap_alloc _ _ _ h1)
  have hlow : ∀ k, k < B + 9 → some k ≠ sv.ownBlock := fun k hk e => by have := hsvb k e.symm; omega
  have hb5 : Below B w0 w5 := T4.bel.grown hgr.grown (by omega) (fun k hk => by have := hsvb k hk; omega)
  have hs3 := T3.size
  have vs5 := T3.vs.of_block (hkb (B + 7) (by omega) (hlow _ (by omega)))
  have T6 : TM B n w0 (w5.setCell ⟨B + 7, 0, none⟩ (.slice (some ⟨g5, 0, none⟩) (z + 1) cap5)) (upd r m x) (upd l m x) os cy (.slice (some ⟨g5, 0, none⟩) (z + 1) cap5) (z + 1) (upd st z m) x :=
    { mr := (T3.mr.of_block (hkb _ (by omega) (hlow _ (by omega)))).setOther (by simp) _
      vr := (T3.vr.of_block (hkb _ (by omega) (hlow _ (by omega)))).setOther (by simp) _
      ml := (T3.ml.of_block (hkb _ (by omega) (hlow _ (by omega)))).setOther (by simp) _
      vl := (T3.vl.of_block (hkb _ (by omega) (hlow _ (by omega)))).setOther (by simp) _
      mo := (T3.mo.of_block (hkb _ (by omega) (hlow _ (by omega)))).setOther (by simp) _
      vo := (T3.vo.of_block (hkb _ (by omega) (hlow _ (by omega)))).setOther (by simp) _
      mc := (T3.mc.of_block (hkb _ (by omega) (hlow _ (by omega)))).setOther (by simp) _
      vs := (vs5.set 0 _).congr fun j hj => by simp [(by omega : j = 0)]
      vc := (T3.vc.of_block (hkb _ (by omega) (hlow _ (by omega)))).setOther (by simp) _
      own := hown5.of_block fun g hg => Below.heap_setCell _ _ _ _ (by have := (hown5.lt g hg).1; simp; omega)
      bel := hb5.setCell (by simp) _ }
  have hr6 := (hr3.of_block (hkb w.heap.size hw3 hne)).setOther (a := ⟨B + 7, 0, none⟩) (by have := T.size; simp; omega) (.slice (some ⟨g5, 0, none⟩) (z + 1) cap5)
  have ho6 : Oth (B + 9) w (w5.setCell ⟨B + 7, 0, none⟩ (.slice (some ⟨g5, 0, none⟩) (z + 1) cap5)) sv :=
    ⟨by have h1 := hgr.grown.size; have h2 := ho3.1; simp at h1 ⊢; omega, fun k h1 h2 h3 => ((Below.heap_setCell _ _ _ _ (by simp; omega)).trans (hkb k (by have := ho3.1; omega) h3)).trans (ho3.2 k h1 h2 h3)⟩
  have c7' := vs5.cell (i := 0) (by omega)
  have f7' := vs5.frozen 0
  clear T4 hown hone hal hown' hgr hkb hb5 vs5 c7
  have c5 := T6.vo.cell (i := 0) (by omega)
  have co := T6.mo.cell hm
  have fo := T6.mo.frozen m
  have T7 := T6.setO m true
  have hr7 := hr6.setOther (a := ⟨B + 4, m, none⟩) (by have := T.size; simp; omega) (.bool true)
  have ho7 : Oth (B + 9) w ((w5.setCell ⟨B + 7, 0, none⟩ (.slice (some ⟨g5, 0, none⟩) (z + 1) cap5)).setCell ⟨B + 4, m, none⟩ (.bool true)) sv :=
    ⟨by have := ho6.1; simpa using this, fun k h1 h2 h3 => (Below.heap_setCell _ _ _ _ (by simp; omega)).trans (ho6.2 k h1 h2 h3)⟩
  have hc0 := hr7.cell (i := 0) (by omega)
  have hc1 := hr7.cell (i := 1) (by omega)
  have hf0 := hr7.frozen 0
  have hf1 := hr7.frozen 1
  have T8 := (T7.keep (w' := (((w5.setCell ⟨B + 7, 0, none⟩ (.slice (some ⟨g5, 0, none⟩) (z + 1) cap5)).setCell ⟨B + 4, m, none⟩ (.bool true)).setCell ⟨w.heap.size, 0, none⟩ (.int .i64 (m : Int))).setCell ⟨w.heap.size, 1, none⟩ (.int .i64 0))
    ((T7.bel.setCell (by have := T.size; simp; omega) _).setCell (by have := T.size; simp; omega) _)
    (fun k _ hk => (Below.heap_setCell _ _ _ _ (by have := T.size; simp; omega)).trans (Below.heap_setCell _ _ _ _ (by have := T.size; simp; omega)))
    (fun g hg => (Below.heap_setCell _ _ _ _ (by cases hg; exact HG.out)).trans (Below.heap_setCell _ _ _ _ (by cases hg; exact HG.out))))
  have ho8 : Oth (B + 9) w ((((w5.setCell ⟨B + 7, 0, none⟩ (.slice (some ⟨g5, 0, none⟩) (z + 1) cap5)).setCell ⟨B + 4, m, none⟩ (.bool true)).setCell ⟨w.heap.size, 0, none⟩ (.int .i64 (m : Int))).setCell ⟨w.heap.size, 1, none⟩ (.int .i64 0)) sv :=
    ⟨by have := ho7.1; simpa using this, fun k h1 h2 h3 => ((Below.heap_setCell _ _ _ _ (by simp; omega)).trans (Below.heap_setCell _ _ _ _ (by simp; omega))).trans (ho7.2 k h1 h2 h3)⟩
  obtain ⟨c8, hc8, hcs8, hcc8⟩ := (hr7.set 0 (.int .i64 (m : Int))).set 1 (.int .i64 0)
  have he8 : c8 = #[.int .i64 (m : Int), .int .i64 0] := by
    apply Array.ext_getElem?
    intro i
    by_cases hi : i < 2
    · rw [hcc8 i hi]
      rcases (by omega : i = 0 ∨ i = 1) with rfl | rfl <;> simp
    · rw [Array.getElem?_eq_none (by omega), Array.getElem?_eq_none (by simp; omega)]
  rw [he8] at hc8
  go_wp2
  refine bodyPost_ret (v := .agg #[.int .i64 (m : Int), .int .i64 0]) (results_cell_row Try.results40 _ _ w.heap.size 66 _ (0, 0) _ rfl hc8 Try.underlying66 rfl (by kernel_rfl)) rfl ⟨rfl, ?_⟩
  rw [HX.out] at T8
  exact ⟨_, T8, ho8⟩
end Go.Proofs.Qxb6602369a
