import Derived.Test.Qxb6602369aQ
namespace Go.Proofs.Qxb6602369a
open Go.RowKit

theorem two_cell (w : World) (x y : Value) (t : TypeId) : ∀ j u, [x, y][j]? = some u → (w.alloc (.cells #[x, y] t)).cell? ((⟨w.heap.size, 0, none⟩ : Addr).add j) = some u := by
  intro j u hu
  have h := World.rowIs_alloc w #[x, y] t (fun i => if i = 0 then x else y) (fun i hi => by
    have : i = 0 ∨ i = 1 := by simp at hi; omega
    rcases this with rfl | rfl <;> rfl)
  rw [Addr.add_lit, Nat.zero_add]
  match j, hu with
  | 0, hu => exact (h.cell (i := 0) (by simp)).trans hu
  | 1, hu => exact (h.cell (i := 1) (by simp)).trans hu
theorem Own.stepSet {w : World} {base h g cap q : Nat} {wn wx : Nat → Nat} (O : Own w base 66 2 (.slice (some ⟨g, 0, none⟩) h cap) h (stepC wn wx)) (x : Nat) : Own (w.setCell ⟨g, q * 2 + 1, none⟩ (.int .i64 (x : Nat))) base 66 2 (.slice (some ⟨g, 0, none⟩) h cap) h (stepC wn (upd wx q x)) :=
  (O.set (q * 2 + 1) _).congr fun j _ => by
    by_cases e : j = q * 2 + 1
    · rw [if_pos e, e, stepC_odd, upd_same]
    · rw [if_neg e]
      unfold stepC
      by_cases h2 : j % 2 = 0
      · rw [if_pos h2, if_pos h2]
      · rw [if_neg h2, if_neg h2, upd_other _ _ _ (by omega)]
theorem Own.stepSnoc {w : World} {base h m : Nat} {v : Value} {wn wx : Nat → Nat} (O : w.ownsRow base 66 2 v (h + 1) ((List.range (h * 2)).map (stepC wn wx) ++ [.int .i64 (m : Nat), .int .i64 0])) : Own w base 66 2 v (h + 1) (stepC (upd wn h m) (upd wx h 0)) := by
  refine Own.snoc O rfl (fun j hj => ?_) (fun j hj => ?_)
  · unfold stepC
    by_cases h2 : j % 2 = 0
    · rw [if_pos h2, if_pos h2, upd_other _ _ _ (by omega)]
    · rw [if_neg h2, if_neg h2, upd_other _ _ _ (by omega)]
  · rcases (by omega : j = 0 ∨ j = 1) with rfl | rfl
    · rw [Nat.add_zero, stepC_even, upd_same]; rfl
    · rw [stepC_odd, upd_same]; rfl

section
variable {w wr : World} {n : Nat} {ns : Nat → List Nat} {k : Nat} {wv : Value} {q gk g cap : Nat} {r l : Nat → Nat} {os cy : Nat → Bool} {sv : Value} {z : Nat} {st wn wx : Nat → Nat} {cnt m : Nat}

/-- A store into the walk's row turns nothing of the rest. -/
theorem InR.next (I : InR w wr n ns k (.slice (some ⟨g, 0, none⟩) (q + 1) cap) (q + 1) gk r l os cy sv z st wn wx cnt) (x : Nat) :
    TM w.heap.size n w (wr.setCell ⟨g, q * 2 + 1, none⟩ (.int .i64 (x : Nat))) r l os cy sv z st cnt ∧ Own (wr.setCell ⟨g, q * 2 + 1, none⟩ (.int .i64 (x : Nat))) (w.heap.size + 9) 66 2 (.slice (some ⟨g, 0, none⟩) (q + 1) cap) (q + 1) (stepC wn (upd wx q x)) := by
  have hg := (I.own.lt g rfl).1
  refine ⟨I.tm.keep (I.tm.bel.setCell (by simp; omega) _) (fun j _ hj => Below.heap_setCell _ _ _ _ (by simp; omega)) (fun j hj => Below.heap_setCell _ _ _ _ ?_), I.own.stepSet x⟩
  intro e
  exact I.tm.own.apart I.own (by omega) j hj (by rw [e]; rfl)

/-- A new node is entered from the top. -/
theorem InR.enterStep (I : InR w wr n ns k wv (q + 1) gk r l os cy sv z st wn wx cnt) (hm : (ns (wn q))[wx q]? = some m) (hr : r m = 0) {w6 : World} {wv' sv' : Value}
    (T6 : TM w.heap.size n w w6 (upd r m (cnt + 1)) (upd l m (cnt + 1)) (upd os m true) cy sv' (z + 1) (upd st z m) (cnt + 1))
    (O6 : Own w6 (w.heap.size + 9) 66 2 wv' (q + 1 + 1) (stepC (upd wn (q + 1) m) (upd (upd wx q (wx q + 1)) (q + 1) 0))) : ∃ g', g' < gk ∧ InR' w w6 n ns k wv' g' := by
  have hwn := (I.tj.in_lt (I.tj.w_in q (by omega))).1
  have hmem : m ∈ ns (wn q) := List.mem_of_getElem? hm
  have hmn : m < n := I.tj.rows _ hwn m hmem
  refine ⟨_, Nat.lt_of_lt_of_le (msr_enter hmn hr (c := cnt + 1) (by omega) (wn' := upd wn (q + 1) m) (wx' := upd (upd wx q (wx q + 1)) (q + 1) 0) (fun j hj => upd_other _ _ _ (by omega)) (fun j hj => ?_) (upd_same _ _ _)) I.ms, q + 1 + 1, _, _, _, _, _, _, _, _, _, _, T6, O6, ?_, ?_, ?_, ?_, ?_, Nat.le_refl _⟩
  · rw [upd_other _ _ _ (by omega)]
    by_cases e : j = q
    · subst e; rw [upd_same]; omega
    · rw [upd_other _ _ _ e]; exact Nat.le_refl _
  · refine I.tj.enter hmn hr (fun j hj => ?_) (fun e => by omega) (fun v hv => upd_other _ _ _ hv) (upd_same _ _ _) (fun v hv => upd_other _ _ _ hv) (upd_same _ _ _) (fun j hj => upd_other _ _ _ (by omega)) (upd_same _ _ _) (fun j hj => upd_other _ _ _ (by omega)) (fun j hj => ?_) ⟨upd_same _ _ _, upd_same _ _ _⟩
    · obtain rfl : j = q := by omega
      exact hmem
    · rw [upd_other _ _ _ (by omega)]
      by_cases e : j = q
      · subst e; exact .inr ⟨upd_same _ _ _, hm⟩
      · exact .inl (upd_other _ _ _ e)
  · intro v hv
    by_cases e : v = m
    · rw [e, upd_same]; omega
    · rw [upd_other _ _ _ e]; exact I.vis v hv
  · by_cases e : k = m
    · rw [e, upd_same]; omega
    · rw [upd_other _ _ _ e]; exact I.root
  · rw [many_upd hmn hr (by omega), I.cnts]
  · intro v
    constructor
    · intro h
      by_cases e : v = m
      · exact ⟨z, by omega, by rw [e, upd_same]⟩
      · rw [upd_other _ _ _ e] at h
        obtain ⟨j, hj, ej⟩ := (I.ons v).1 h
        exact ⟨j, by omega, by rw [upd_other _ _ _ (by omega)]; exact ej⟩
    · rintro ⟨j, hj, ej⟩
      by_cases e : v = m
      · rw [e, upd_same]
      · rw [upd_other _ _ _ e]
        refine (I.ons v).2 ?_
        by_cases ez : j = z
        · subst ez; rw [upd_same] at ej; exact absurd ej.symm e
        · rw [upd_other _ _ _ ez] at ej; exact ⟨j, by omega, ej⟩

/-- A need reached before is passed. -/
theorem InR.passStep (I : InR w wr n ns k wv (q + 1) gk r l os cy sv z st wn wx cnt) (hm : (ns (wn q))[wx q]? = some m) (hr : 0 < r m) {w6 : World} {l' : Nat → Nat}
    (T6 : TM w.heap.size n w w6 r l' os cy sv z st cnt) (O6 : Own w6 (w.heap.size + 9) 66 2 wv (q + 1) (stepC wn (upd wx q (wx q + 1))))
    (el : ∀ v, v ≠ wn q → l' v = l v) (hl : (os m = true ∧ l' (wn q) = min (l (wn q)) (r m)) ∨ (os m = false ∧ l' (wn q) = l (wn q))) : ∃ g', g' < gk ∧ InR' w w6 n ns k wv g' := by
  refine ⟨_, Nat.lt_of_lt_of_le (msr_next (h := q + 1) (by omega) (by rw [Nat.add_sub_cancel]; exact (List.getElem?_eq_some_iff.1 hm).1)) I.ms, q + 1, _, _, _, _, _, _, _, _, _, _, T6, O6, ?_, I.vis, I.root, I.cnts, I.ons, ?_⟩
  · refine I.tj.pass (by omega) (by rw [Nat.add_sub_cancel]; exact hm) hr (fun j hj hne => upd_other _ _ _ (by omega)) (by rw [Nat.add_sub_cancel, upd_same]) (by rw [Nat.add_sub_cancel]; exact el) ?_
    rw [Nat.add_sub_cancel]
    rcases hl with ⟨h1, h2⟩ | ⟨h1, h2⟩
    · exact .inl ⟨(I.ons m).1 h1, h2⟩
    · exact .inr ⟨(fun h => by rw [(I.ons m).2 h] at h1; cases h1), h2⟩
  · exact Nat.le_refl _

/-- The top leaves the walk and stays on the stack. -/
theorem InR.finStep (I : InR w wr n ns k wv (q + 1) gk r l os cy sv z st wn wx cnt) (hx : wx q = (ns (wn q)).length) (hl : l (wn q) ≠ r (wn q)) {w6 : World} {wv' : Value} {l' : Nat → Nat}
    (T6 : TM w.heap.size n w w6 r l' os cy sv z st cnt) (O6 : Own w6 (w.heap.size + 9) 66 2 wv' q (stepC wn wx))
    (el : ∀ v, v ≠ wn (q - 1) → l' v = l v) (elp : 0 < q → l' (wn (q - 1)) = min (l (wn (q - 1))) (l (wn q))) : ∃ g', g' < gk ∧ InR' w w6 n ns k wv' g' := by
  have hF := (I.tj.fin (by omega) (by rw [Nat.add_sub_cancel]; exact hx) (by rw [Nat.add_sub_cancel]; exact hl) (l' := l') (by rw [show q + 1 - 2 = q - 1 by omega]; exact el) (fun h => by rw [show q + 1 - 2 = q - 1 by omega, Nat.add_sub_cancel]; exact elp (by omega))).2
  rw [Nat.add_sub_cancel] at hF
  have hp := msr_pop (n := n) (ns := ns) (r := r) (wn := wn) (wx := wx) (h := q + 1) (by omega) (by rw [Nat.add_sub_cancel]; exact hx)
  rw [Nat.add_sub_cancel] at hp
  exact ⟨_, Nat.lt_of_lt_of_le hp I.ms, q, _, _, _, _, _, _, _, _, _, _, T6, O6, hF, I.vis, I.root, I.cnts, I.ons, Nat.le_refl _⟩

/-- So many places of the stack, from 'at0' on, have been marked. -/
def mark (f : Nat → Bool) (st : Nat → Nat) (at0 : Nat) (b : Bool) : Nat → Nat → Bool
  | 0 => f
  | i + 1 => upd (mark f st at0 b i) (st (at0 + i)) b
theorem mark_out (f : Nat → Bool) (st : Nat → Nat) (at0 : Nat) (b : Bool) (i v : Nat) (h : ∀ j, at0 ≤ j → j < at0 + i → st j ≠ v) : mark f st at0 b i v = f v := by
  induction i with
  | zero => rfl
  | succ i ih =>
    unfold mark
    rw [upd_other _ _ _ (fun e => h (at0 + i) (by omega) (by omega) e.symm)]
    exact ih (fun j h1 h2 => h j h1 (by omega))
theorem mark_in (f : Nat → Bool) (st : Nat → Nat) (at0 : Nat) (b : Bool) (i j : Nat) (h1 : at0 ≤ j) (h2 : j < at0 + i) : mark f st at0 b i (st j) = b := by
  induction i with
  | zero => omega
  | succ i ih =>
    unfold mark
    by_cases e : st j = st (at0 + i)
    · rw [e, upd_same]
    · rw [upd_other _ _ _ e]
      exact ih (by by_cases a : j = at0 + i
                   · rw [a] at e; exact absurd rfl e
                   · omega)

/-- The top leads a component. -/
theorem InR.compStep (I : InR w wr n ns k wv (q + 1) gk r l os cy sv z st wn wx cnt) (hx : wx q = (ns (wn q)).length) (hl : l (wn q) = r (wn q)) {at0 : Nat} (hat : at0 < z) (hst : st at0 = wn q) {w6 : World} {wv' sv' : Value} {l' : Nat → Nat}
    (T6 : TM w.heap.size n w w6 r l' (mark os st at0 false (z - at0)) (mark cy st at0 (decide (1 < z - at0)) (z - at0)) sv' at0 st cnt) (O6 : Own w6 (w.heap.size + 9) 66 2 wv' q (stepC wn wx))
    (el : ∀ v, v ≠ wn (q - 1) → l' v = l v) (elp : 0 < q → l' (wn (q - 1)) = min (l (wn (q - 1))) (l (wn q))) : ∃ g', g' < gk ∧ InR' w w6 n ns k wv' g' := by
  have hF := I.tj.comp (by omega) (by rw [Nat.add_sub_cancel]; exact hx) (by rw [Nat.add_sub_cancel]; exact hl) hat (by rw [Nat.add_sub_cancel]; exact hst) (l' := l') (cy' := mark cy st at0 (decide (1 < z - at0)) (z - at0)) (by rw [show q + 1 - 2 = q - 1 by omega]; exact el)
    (fun h => by rw [show q + 1 - 2 = q - 1 by omega, Nat.add_sub_cancel]; exact elp (by omega)) (fun v hv => mark_out _ _ _ _ _ _ (fun j h1 h2 => hv j h1 (by omega))) (fun j h1 h2 => mark_in _ _ _ _ _ _ h1 (by omega))
  rw [Nat.add_sub_cancel] at hF
  have hp := msr_pop (n := n) (ns := ns) (r := r) (wn := wn) (wx := wx) (h := q + 1) (by omega) (by rw [Nat.add_sub_cancel]; exact hx)
  rw [Nat.add_sub_cancel] at hp
  refine ⟨_, Nat.lt_of_lt_of_le hp I.ms, q, _, _, _, _, _, _, _, _, _, _, T6, O6, hF, I.vis, I.root, I.cnts, fun v => ?_, Nat.le_refl _⟩
  constructor
  · intro h
    by_cases e : ∃ j, at0 ≤ j ∧ j < z ∧ st j = v
    · obtain ⟨j, h1, h2, rfl⟩ := e
      rw [mark_in _ _ _ _ _ _ h1 (by omega)] at h
      cases h
    · rw [mark_out _ _ _ _ _ _ (fun j h1 h2 h3 => e ⟨j, h1, by omega, h3⟩)] at h
      obtain ⟨j, hj, ej⟩ := (I.ons v).1 h
      refine ⟨j, ?_, ej⟩
      apply Classical.byContradiction
      intro hn
      exact e ⟨j, by omega, hj, ej⟩
  · rintro ⟨j, hj, ej⟩
    rw [mark_out _ _ _ _ _ _ (fun j' h1 h2 h3 => by
      have := I.tj.s_srt j j' (by omega) (by omega)
      rw [ej, h3] at this
      omega)]
    exact (I.ons v).2 ⟨j, by omega, ej⟩
end
end Go.Proofs.Qxb6602369a
