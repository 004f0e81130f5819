import Derived.Test.Qxb6602369aX
namespace Go.Proofs.Qxb6602369a
open Go.RowKit

/-- Two families of n own rows of numbers each: their values in the rows of blocks B and B + 1. -/
structure NT (B n : Nat) (w0 w : World) (vs : Nat → Value) (xs : Nat → List Nat) : Prop where
  row1 : w.rowIs B 28 n vs
  row2 : w.rowIs (B + 1) 28 n (fun i => vs (n + i))
  own : ∀ i, i < n + n → w.ownsRow (B + 2) 3 1 (vs i) (xs i).length (natL (xs i))
  dis : ∀ i j, i < n + n → j < n + n → i ≠ j → ∀ g, (vs i).ownBlock = some g → (vs j).ownBlock ≠ some g
  bel : Below B w0 w

section
variable {B n : Nat} {w0 w w' : World} {vs : Nat → Value} {xs : Nat → List Nat} {i : Nat} {v' : Value} {ys : List Nat}
theorem NT.size (h : NT B n w0 w vs xs) : B + 2 ≤ w.heap.size := h.row2.lt
theorem NT.keep (h : NT B n w0 w vs xs) (hb : Below B w0 w') (hk : w'.heap[B]? = w.heap[B]?) (hk2 : w'.heap[B + 1]? = w.heap[B + 1]?) (ho : ∀ i, i < n + n → ∀ g, (vs i).ownBlock = some g → w'.heap[g]? = w.heap[g]?) : NT B n w0 w' vs xs :=
  ⟨h.row1.of_block hk, h.row2.of_block hk2, fun i hi => ownsRow_block (h.own i hi) (ho i hi), h.dis, hb⟩
theorem NT.alloc (h : NT B n w0 w vs xs) (o : Obj) : NT B n w0 (w.alloc o) vs xs :=
  h.keep (h.bel.alloc (by have := h.size; omega) _) (Below.heap_alloc _ _ _ (by have := h.size; omega)) (Below.heap_alloc _ _ _ (by have := h.size; omega)) (fun i hi g hg => Below.heap_alloc _ _ _ ((h.own i hi).lt g hg).2)
theorem NT.drew (h : NT B n w0 w vs xs) : NT B n w0 w.drew vs xs := ⟨h.row1, h.row2, h.own, h.dis, h.bel.drew⟩
theorem NT.below (h : NT B n w0 w vs xs) (hb : Below w.heap.size w w') : NT B n w0 w' vs xs :=
  h.keep (h.bel.trans (hb.mono (by have := h.size; omega))) (hb.block _ (by have := h.size; omega)) (hb.block _ (by have := h.size; omega)) (fun i hi g hg => hb.block _ ((h.own i hi).lt g hg).2)
/-- One row has turned; its value is yet to be stored. -/
theorem NT.rows (h : NT B n w0 w vs xs) (hi : i < n + n) {v : Value} (hv : vs i = v) (hg : Grew w w' v v') : w'.rowIs B 28 n vs ∧ w'.rowIs (B + 1) 28 n (fun i => vs (n + i)) := by
  subst hv
  have hsz := h.size
  have hlt := (h.own i hi).lt
  exact ⟨h.row1.of_block (hg.grown.block B (by omega) (fun e => by have := (hlt B e.symm).1; omega)), h.row2.of_block (hg.grown.block (B + 1) (by omega) (fun e => by have := (hlt (B + 1) e.symm).1; omega))⟩
theorem NT.core (h : NT B n w0 w vs xs) (hi : i < n + n) (hg : Grew w w' (vs i) v') (ho : w'.ownsRow (B + 2) 3 1 v' ys.length (natL ys)) (b0 : Nat) (hb0 : B ≤ b0) (hb1 : b0 < B + 2) (j0 : Nat) :
    (∀ j, j < n + n → (w'.setCell ⟨b0, j0, none⟩ v').ownsRow (B + 2) 3 1 (upd vs i v' j) (upd xs i ys j).length (natL (upd xs i ys j))) ∧
    (∀ a b, a < n + n → b < n + n → a ≠ b → ∀ g, (upd vs i v' a).ownBlock = some g → (upd vs i v' b).ownBlock ≠ some g) ∧ Below B w0 (w'.setCell ⟨b0, j0, none⟩ v') := by
  have hoth : ∀ j, j < n + n → j ≠ i → ∀ g, (vs j).ownBlock = some g → w'.heap[g]? = w.heap[g]? := fun j hj hne g hg' =>
    hg.grown.block g ((h.own j hj).lt g hg').2 (fun e => h.dis j i hj hi hne g hg' e.symm)
  have hnew : ∀ j, j < n + n → j ≠ i → ∀ g, (vs j).ownBlock = some g → v'.ownBlock ≠ some g := fun j hj hne g hg' e => by
    rcases hg.blk with a | ⟨g2, a, b⟩
    · rw [a] at e; exact h.dis j i hj hi hne g hg' e
    · rw [a] at e; have e2 : g2 = g := Option.some.inj e; have := ((h.own j hj).lt g hg').2; omega
  refine ⟨fun j hj => ?_, fun a b ha hb hab g hga => ?_, ?_⟩
  · by_cases e : j = i
    · subst e
      rw [upd_same, upd_same]
      exact ownsRow_setCell_below ho hb1 _
    · rw [upd_other _ _ _ e, upd_other _ _ _ e]
      exact ownsRow_setCell_below (ownsRow_block (h.own j hj) (hoth j hj e)) hb1 _
  · by_cases ea : a = i
    · subst ea
      rw [upd_same] at hga
      rw [upd_other _ _ _ (Ne.symm hab)]
      exact fun e => hnew b hb (Ne.symm hab) g e hga
    · rw [upd_other _ _ _ ea] at hga
      by_cases eb : b = i
      · subst eb; rw [upd_same]; exact hnew a ha ea g hga
      · rw [upd_other _ _ _ eb]; exact h.dis a b ha hb hab g hga
  · exact (h.bel.grown hg.grown (by have := h.size; omega) (fun g e => by have := ((h.own i hi).lt g e).1; omega)).setCell hb0 _
theorem NT.grew1 (h : NT B n w0 w vs xs) (hi : i < n) (hg : Grew w w' (vs i) v') (ho : w'.ownsRow (B + 2) 3 1 v' ys.length (natL ys)) : NT B n w0 (w'.setCell ⟨B, i, none⟩ v') (upd vs i v') (upd xs i ys) := by
  obtain ⟨r1, r2⟩ := h.rows (by omega) rfl hg
  obtain ⟨c1, c2, c3⟩ := h.core (by omega) hg ho B (Nat.le_refl _) (by omega) i
  refine ⟨(r1.set i v').congr (fun j _ => rfl), ?_, c1, c2, c3⟩
  refine (r2.of_block (Deep.blk_setCell_other _ _ _ _ (by simp))).congr fun j _ => ?_
  rw [upd_other _ _ _ (by omega)]
theorem NT.grew2 (h : NT B n w0 w vs xs) (hi : i < n) (hg : Grew w w' (vs (n + i)) v') (ho : w'.ownsRow (B + 2) 3 1 v' ys.length (natL ys)) : NT B n w0 (w'.setCell ⟨B + 1, i, none⟩ v') (upd vs (n + i) v') (upd xs (n + i) ys) := by
  obtain ⟨r1, r2⟩ := h.rows (by omega) rfl hg
  obtain ⟨c1, c2, c3⟩ := h.core (by omega) hg ho (B + 1) (by omega) (by omega) i
  refine ⟨?_, (r2.set i v').congr (fun j _ => ?_), c1, c2, c3⟩
  · refine (r1.of_block (Deep.blk_setCell_other _ _ _ _ (by simp))).congr fun j hj => ?_
    rw [upd_other _ _ _ (by omega)]
  · unfold upd
    by_cases e : j = i
    · rw [if_pos e, if_pos (by omega)]
    · rw [if_neg e, if_neg (by omega)]
theorem NT.init (w : World) (n : Nat) : NT w.heap.size n w ((w.alloc (.cells (madeCells #[.slice none 0 0] n) 28)).alloc (.cells (madeCells #[.slice none 0 0] n) 28)) (fun _ => .slice none 0 0) (fun _ => []) :=
  ⟨(World.rowIs_made w _ n 28).alloc _, rowIs_mk _ _ n 28 _ (by simp), fun _ _ => World.ownsRow_nil _ _ _ _, (fun _ _ _ _ _ g hg => by cases hg), ((Below.refl _ _).alloc (Nat.le_refl _) _).alloc (by simp) _⟩
theorem NT.reads1 (h : NT B n w0 w vs xs) : RdG B w (some ⟨B, 0, none⟩) n xs := by
  refine .inr ⟨B, 0, rfl, Nat.le_refl _, h.row1.lt, fun i hi => ?_⟩
  have hr : RdI B w (vs i) (xs i) := RdI.of_owns (h.own i (by omega)) (by omega)
  have hr' := hr
  obtain ⟨a, c, ev, _⟩ := hr'
  refine ⟨a, c, ?_, by rw [← ev]; exact hr⟩
  rw [Nat.zero_add, h.row1.cell hi, ev]
theorem NT.reads2 (h : NT B n w0 w vs xs) : RdG B w (some ⟨B + 1, 0, none⟩) n (fun b => xs (n + b)) := by
  refine .inr ⟨B + 1, 0, rfl, by omega, h.row2.lt, fun i hi => ?_⟩
  have hr : RdI B w (vs (n + i)) (xs (n + i)) := RdI.of_owns (h.own (n + i) (by omega)) (by omega)
  have hr' := hr
  obtain ⟨a, c, ev, _⟩ := hr'
  refine ⟨a, c, ?_, by rw [← ev]; exact hr⟩
  rw [Nat.zero_add, h.row2.cell hi, ev]
end
end Go.Proofs.Qxb6602369a
