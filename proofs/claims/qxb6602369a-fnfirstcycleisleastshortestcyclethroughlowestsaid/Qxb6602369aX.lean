import Derived.Test.Qxb6602369aV
namespace Go.Proofs.Qxb6602369a
open Go.RowKit

/-- A family of n own rows of numbers, their values in the row of block B. -/
structure NR (B n : Nat) (w0 w : World) (vs : Nat → Value) (xs : Nat → List Nat) : Prop where
  row : w.rowIs B 28 n vs
  own : ∀ i, i < n → w.ownsRow (B + 1) 3 1 (vs i) (xs i).length (natL (xs i))
  dis : ∀ i j, i < n → j < n → i ≠ j → ∀ g, (vs i).ownBlock = some g → (vs j).ownBlock ≠ some g
  bel : Below B w0 w

theorem ownsRow_block {w w' : World} {base e size n : Nat} {v : Value} {xs : List Value} (h : w.ownsRow base e size v n xs) (hb : ∀ g, v.ownBlock = some g → w'.heap[g]? = w.heap[g]?) : w'.ownsRow base e size v n xs := by
  refine ⟨h.1, ?_⟩
  rcases h.2 with h' | ⟨g', cap', cur, h', h2, h3, h4⟩
  · exact .inl h'
  · exact .inr ⟨g', cap', cur, h', h2, (hb g' (by rw [h']; rfl)).trans h3, h4⟩

section
variable {B n : Nat} {w0 w w' : World} {vs : Nat → Value} {xs : Nat → List Nat} {i : Nat} {v' : Value} {ys : List Nat}
theorem NR.size (h : NR B n w0 w vs xs) : B + 1 ≤ w.heap.size := h.row.lt
theorem NR.keep (h : NR B n w0 w vs xs) (hb : Below B w0 w') (hk : w'.heap[B]? = w.heap[B]?) (ho : ∀ i, i < n → ∀ g, (vs i).ownBlock = some g → w'.heap[g]? = w.heap[g]?) : NR B n w0 w' vs xs :=
  ⟨h.row.of_block hk, fun i hi => ownsRow_block (h.own i hi) (ho i hi), h.dis, hb⟩
theorem NR.alloc (h : NR B n w0 w vs xs) (o : Obj) : NR B n w0 (w.alloc o) vs xs :=
  h.keep (h.bel.alloc (by have := h.size; omega) _) (Below.heap_alloc _ _ _ (by have := h.size; omega)) (fun i hi g hg => Below.heap_alloc _ _ _ ((h.own i hi).lt g hg).2)
theorem NR.drew (h : NR B n w0 w vs xs) : NR B n w0 w.drew vs xs := ⟨h.row, h.own, h.dis, h.bel.drew⟩
/-- Nothing from B on that was there has turned. -/
theorem NR.below (h : NR B n w0 w vs xs) (hb : Below w.heap.size w w') : NR B n w0 w' vs xs :=
  h.keep (h.bel.trans (hb.mono (by have := h.size; omega))) (hb.block _ (by have := h.size; omega)) (fun i hi g hg => hb.block _ ((h.own i hi).lt g hg).2)
/-- One row has another content; its value is yet to be stored. -/
theorem NR.grew (h : NR B n w0 w vs xs) (hi : i < n) (hg : Grew w w' (vs i) v') (ho : w'.ownsRow (B + 1) 3 1 v' ys.length (natL ys)) : NR B n w0 (w'.setCell ⟨B, i, none⟩ v') (upd vs i v') (upd xs i ys) := by
  have hlow : some B ≠ (vs i).ownBlock := fun e => by have := ((h.own i hi).lt B e.symm).1; omega
  have hrow : w'.rowIs B 28 n vs := h.row.of_block (hg.grown.block B (by have := h.size; omega) hlow)
  have hoth : ∀ j, j < n → j ≠ i → ∀ g, (vs j).ownBlock = some g → w'.heap[g]? = w.heap[g]? := fun j hj hne g hg' =>
    hg.grown.block g ((h.own j hj).lt g hg').2 (fun e => h.dis j i hj hi hne g hg' e.symm)
  have hnew : ∀ j, j < n → j ≠ i → ∀ g, (vs j).ownBlock = some g → v'.ownBlock ≠ some g := fun j hj hne g hg' e => by
    rcases hg.blk with a | ⟨g2, a, b⟩
    · rw [a] at e; exact h.dis j i hj hi hne g hg' e
    · rw [a] at e; have e2 : g2 = g := Option.some.inj e; have := ((h.own j hj).lt g hg').2; omega
  refine ⟨(hrow.set i v').congr (fun j _ => rfl), fun j hj => ?_, fun a b ha hb hab g hga => ?_, ?_⟩
  · by_cases e : j = i
    · subst e
      rw [upd_same, upd_same]
      exact ownsRow_setCell_below ho (by simp) _
    · rw [upd_other _ _ _ e, upd_other _ _ _ e]
      exact ownsRow_setCell_below (ownsRow_block (h.own j hj) (hoth j hj e)) (by simp) _
  · by_cases ea : a = i
    · subst ea
      rw [upd_same] at hga
      rw [upd_other _ _ _ (Ne.symm hab)]
      exact fun e => hnew b hb (Ne.symm hab) g e hga
    · rw [upd_other _ _ _ ea] at hga
      by_cases eb : b = i
      · subst eb; rw [upd_same]; exact hnew a ha ea g hga
      · rw [upd_other _ _ _ eb]; exact h.dis a b ha hb hab g hga
  · exact (h.bel.grown hg.grown (by have := h.size; omega) (fun g e => by have := ((h.own i hi).lt g e).1; omega)).setCell (by simp) _
/-- .. and where the value stays, none need be stored. -/
theorem NR.turn (h : NR B n w0 w vs xs) (hi : i < n) (hg : Grew w w' (vs i) (vs i)) (ho : w'.ownsRow (B + 1) 3 1 (vs i) ys.length (natL ys)) : NR B n w0 w' vs (upd xs i ys) := by
  have hlow : some B ≠ (vs i).ownBlock := fun e => by have := ((h.own i hi).lt B e.symm).1; omega
  refine ⟨h.row.of_block (hg.grown.block B (by have := h.size; omega) hlow), fun j hj => ?_, h.dis, h.bel.grown hg.grown (by have := h.size; omega) (fun g e => by have := ((h.own i hi).lt g e).1; omega)⟩
  by_cases e : j = i
  · subst e; rw [upd_same]; exact ho
  · rw [upd_other _ _ _ e]
    exact ownsRow_block (h.own j hj) (fun g hg' => hg.grown.block g ((h.own j hj).lt g hg').2 (fun e' => h.dis j i hj hi e g hg' e'.symm))
/-- At the start: n nil slices. -/
theorem NR.init (w : World) (n : Nat) : NR w.heap.size n w (w.alloc (.cells (madeCells #[.slice none 0 0] n) 28)) (fun _ => .slice none 0 0) (fun _ => []) :=
  ⟨World.rowIs_made w _ n 28, fun _ _ => World.ownsRow_nil _ _ _ _, (fun _ _ _ _ _ g hg => by cases hg), (Below.refl _ _).alloc (Nat.le_refl _) _⟩
theorem RdI.of_owns {w : World} {base lo t : Nat} {v : Value} {l : List Nat} (h : w.ownsRow base t 1 v l.length (natL l)) (hl : lo ≤ base) : RdI lo w v l := by
  rcases h.2 with ⟨rfl, h0⟩ | ⟨g, cap, cur, rfl, hbg, hg, _, _, _, _⟩
  · have : l = [] := List.eq_nil_of_length_eq_zero h0
    subst this
    exact RdI.nil _ _ _ _
  · refine ⟨_, _, rfl, fun _ => ⟨g, 0, rfl, by omega, (Array.getElem?_eq_some_iff.1 hg).1, fun i hi => ?_⟩⟩
    rw [Nat.zero_add, h.cellAt _ (by omega)]
    simp [natL, hi, List.getD]
/-- The family, as a callee reads it. -/
theorem NR.reads (h : NR B n w0 w vs xs) : RdG B w (some ⟨B, 0, none⟩) n xs := by
  by_cases e : n = 0
  · exact .inl e
  · refine .inr ⟨B, 0, rfl, Nat.le_refl _, h.row.lt, fun i hi => ?_⟩
    have hr : RdI B w (vs i) (xs i) := RdI.of_owns (h.own i hi) (by omega)
    have hr' := hr
    obtain ⟨a, c, ev, _⟩ := hr'
    refine ⟨a, c, ?_, by rw [← ev]; exact hr⟩
    rw [Nat.zero_add, h.row.cell hi, ev]
end
end Go.Proofs.Qxb6602369a
