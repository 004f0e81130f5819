import Derived.Test.Qxb6602369aH
namespace Go.Proofs.Qxb6602369a

/-! Plain mathematics of Tarjan's walk. n nodes, 'ns' their needs. r: when a node was reached (0: not yet); l: low; st: the stack, z of them; wn, wx: the frames of the walk (node, next need), h of them; cnt: the count; cy: the answer. -/

/-- v lies on the stack. -/
def InS (st : Nat → Nat) (z v : Nat) : Prop := ∃ j, j < z ∧ st j = v
/-- v is a node of the walk. -/
def InW (wn : Nat → Nat) (h v : Nat) : Prop := ∃ j, j < h ∧ wn j = v
/-- The node lies with another one on a cycle. -/
def OnC (ns : Nat → List Nat) (v : Nat) : Prop := ∃ u, u ≠ v ∧ Rch (Edg ns) v u ∧ Rch (Edg ns) u v
/-- The need u of v has been followed. -/
def Exd (ns : Nat → List Nat) (wn wx : Nat → Nat) (h v u : Nat) : Prop := (¬ InW wn h v ∧ u ∈ ns v) ∨ ∃ j c, j < h ∧ wn j = v ∧ c < wx j ∧ (ns v)[c]? = some u

structure Tj (n : Nat) (ns : Nat → List Nat) (r l st : Nat → Nat) (z : Nat) (wn wx : Nat → Nat) (h cnt : Nat) (cy : Nat → Bool) : Prop where
  rows : ∀ v, v < n → ∀ u, u ∈ ns v → u < n
  s_lt : ∀ j, j < z → st j < n
  s_vis : ∀ j, j < z → 0 < r (st j)
  s_srt : ∀ j j', j < j' → j' < z → r (st j) < r (st j')
  r_cnt : ∀ v, v < n → r v ≤ cnt
  w_in : ∀ j, j < h → InS st z (wn j)
  w_srt : ∀ j j', j < j' → j' < h → r (wn j) < r (wn j')
  w_nx : ∀ j, j < h → wx j ≤ (ns (wn j)).length
  bot : ∀ v, InS st z v → 0 < h ∧ r (wn 0) ≤ r v
  low_le : ∀ v, InS st z v → l v ≤ r v
  low_in : ∀ v, InS st z v → ∃ u, InS st z u ∧ r u = l v ∧ Rch (Edg ns) v u
  black : ∀ v, InS st z v → ¬ InW wn h v → l v < r v
  ex_vis : ∀ v, InS st z v → ∀ u, Exd ns wn wx h v u → 0 < r u
  ex_low : ∀ v j, InS st z v → j < h → r (wn j) ≤ r v → (j + 1 < h → r v < r (wn (j + 1))) → ∀ u, Exd ns wn wx h v u → InS st z u → l (wn j) ≤ r u
  tree : ∀ j, j < h → ∀ v, InS st z v → r (wn j) ≤ r v → Rch (Edg ns) (wn j) v
  done : ∀ v, v < n → 0 < r v → ¬ InS st z v → (∀ u, u ∈ ns v → 0 < r u ∧ ¬ InS st z u) ∧ (cy v = true ↔ OnC ns v)

section
variable {n : Nat} {ns : Nat → List Nat} {r l st : Nat → Nat} {z : Nat} {wn wx : Nat → Nat} {h cnt : Nat} {cy : Nat → Bool}

theorem Tj.start (hr : ∀ v, v < n → ∀ u, u ∈ ns v → u < n) (h0 : ∀ v, v < n → r v = 0) : Tj n ns r l st 0 wn wx 0 0 cy where
  rows := hr
  s_lt := fun j h => by omega
  s_vis := fun j h => by omega
  s_srt := fun j j' h h' => by omega
  r_cnt := fun v hv => by rw [h0 v hv]; omega
  w_in := fun j h => by omega
  w_srt := fun j j' h h' => by omega
  w_nx := fun j h => by omega
  bot := fun v ⟨j, h, _⟩ => by omega
  low_le := fun v ⟨j, h, _⟩ => by omega
  low_in := fun v ⟨j, h, _⟩ => by omega
  black := fun v ⟨j, h, _⟩ => by omega
  ex_vis := fun v ⟨j, h, _⟩ => by omega
  ex_low := fun v j ⟨j', h, _⟩ => by omega
  tree := fun j h => by omega
  done := fun v hv h => by rw [h0 v hv] at h; omega

theorem Tj.in_lt (T : Tj n ns r l st z wn wx h cnt cy) {v : Nat} (hv : InS st z v) : v < n ∧ 0 < r v := by
  obtain ⟨j, hj, e⟩ := hv
  subst e
  exact ⟨T.s_lt j hj, T.s_vis j hj⟩

/-- Two of the stack that were reached at once are one. -/
theorem Tj.in_inj (T : Tj n ns r l st z wn wx h cnt cy) {u v : Nat} (hu : InS st z u) (hv : InS st z v) (e : r u = r v) : u = v := by
  obtain ⟨i, hi, rfl⟩ := hu
  obtain ⟨j, hj, rfl⟩ := hv
  rcases Nat.lt_trichotomy i j with a | a | a
  · have := T.s_srt i j a hj; omega
  · rw [a]
  · have := T.s_srt j i a hi; omega

/-- A new node m is entered: the root, or (its need followed already) from the walk's top. -/
theorem Tj.enter (T : Tj n ns r l st z wn wx h cnt cy) {m : Nat} (hm : m < n) (hw : r m = 0) (htop : ∀ j, j + 1 = h → m ∈ ns (wn j)) (hz : h = 0 → z = 0)
    {r' l' st' wn' wx' : Nat → Nat} (er : ∀ v, v ≠ m → r' v = r v) (erm : r' m = cnt + 1) (el : ∀ v, v ≠ m → l' v = l v) (elm : l' m = cnt + 1)
    (es : ∀ j, j < z → st' j = st j) (esz : st' z = m) (ew0 : ∀ j, j < h → wn' j = wn j) (ewx : ∀ j, j < h → wx' j = wx j ∨ (wx' j = wx j + 1 ∧ (ns (wn j))[wx j]? = some m)) (ewh : wn' h = m ∧ wx' h = 0) :
    Tj n ns r' l' st' (z + 1) wn' wx' (h + 1) (cnt + 1) cy := by
  have hmS : ¬ InS st z m := fun hv => by have := (T.in_lt hv).2; omega
  have ne : ∀ {v}, InS st z v → v ≠ m := fun {v} hv e => hmS (e ▸ hv)
  have inS : ∀ v, InS st' (z + 1) v ↔ v = m ∨ InS st z v := by
    intro v
    constructor
    · rintro ⟨j, hj, e⟩
      by_cases a : j = z
      · subst a; rw [esz] at e; exact .inl e.symm
      · rw [es j (by omega)] at e; exact .inr ⟨j, by omega, e⟩
    · rintro (e | ⟨j, hj, e⟩)
      · exact ⟨z, by omega, by rw [e]; exact esz⟩
      · exact ⟨j, by omega, by rw [es j hj]; exact e⟩
  have inW : ∀ v, InW wn' (h + 1) v ↔ v = m ∨ InW wn h v := by
    intro v
    constructor
    · rintro ⟨j, hj, e⟩
      by_cases a : j = h
      · subst a; rw [ewh.1] at e; exact .inl e.symm
      · rw [ew0 j (by omega)] at e; exact .inr ⟨j, by omega, e⟩
    · rintro (e | ⟨j, hj, e⟩)
      · exact ⟨h, by omega, by rw [e]; exact ewh.1⟩
      · exact ⟨j, by omega, by rw [ew0 j hj]; exact e⟩
  have wne : ∀ j, j < h → wn j ≠ m := fun j hj => ne (T.w_in j hj)
  have exd : ∀ {v u}, InS st z v → Exd ns wn' wx' (h + 1) v u → Exd ns wn wx h v u ∨ u = m := by
    intro v u hv hx
    rcases hx with ⟨a, b⟩ | ⟨j, c, hj, e, hc, hq⟩
    · exact .inl (.inl ⟨fun w => a ((inW v).2 (.inr w)), b⟩)
    · by_cases a : j = h
      · subst a; rw [ewh.1] at e; exact absurd e.symm (ne hv)
      · rw [ew0 j (by omega)] at e
        rcases ewx j (by omega) with h1 | ⟨h1, h2⟩
        · rw [h1] at hc
          exact .inl (.inr ⟨j, c, by omega, e, hc, hq⟩)
        · by_cases b : c < wx j
          · exact .inl (.inr ⟨j, c, by omega, e, b, hq⟩)
          · obtain rfl : c = wx j := by omega
            rw [e, hq] at h2
            exact .inr (Option.some.inj h2)
  have exm : ∀ {u}, ¬ Exd ns wn' wx' (h + 1) m u := by
    intro u hx
    rcases hx with ⟨a, _⟩ | ⟨j, c, hj, e, hc, _⟩
    · exact a ((inW m).2 (.inl rfl))
    · by_cases a : j = h
      · subst a; rw [ewh.2] at hc; omega
      · rw [ew0 j (by omega)] at e; exact wne j (by omega) e
  have top : ∀ j, j < h → Rch (Edg ns) (wn j) m := by
    intro j hj
    have hh : h - 1 < h := by omega
    have h1 := T.tree j hj (wn (h - 1)) (T.w_in _ hh) (by
      by_cases e : j = h - 1
      · rw [e]; exact Nat.le_refl _
      · exact Nat.le_of_lt (T.w_srt j (h - 1) (by omega) hh))
    exact h1.trans (Rch.one (htop (h - 1) (by omega)))
  have rle : ∀ {v}, InS st z v → r v ≤ cnt := fun {v} hv => T.r_cnt v (T.in_lt hv).1
  refine ⟨T.rows, ?_, ?_, ?_, ?_, ?_, ?_, ?_, ?_, ?_, ?_, ?_, ?_, ?_, ?_, ?_⟩
  · intro j hj
    by_cases a : j = z
    · rw [a, esz]; exact hm
    · rw [es j (by omega)]; exact T.s_lt j (by omega)
  · intro j hj
    by_cases a : j = z
    · rw [a, esz, erm]; omega
    · rw [es j (by omega), er _ (ne ⟨j, by omega, rfl⟩)]; exact T.s_vis j (by omega)
  · intro j j' hj hj'
    rw [es j (by omega), er _ (ne ⟨j, by omega, rfl⟩)]
    by_cases a : j' = z
    · rw [a, esz, erm]
      have := rle (v := st j) ⟨j, by omega, rfl⟩
      omega
    · rw [es j' (by omega), er _ (ne ⟨j', by omega, rfl⟩)]; exact T.s_srt j j' hj (by omega)
  · intro v hv
    by_cases a : v = m
    · rw [a, erm]; exact Nat.le_refl _
    · rw [er v a]; have := T.r_cnt v hv; omega
  · intro j hj
    rw [inS]
    by_cases a : j = h
    · rw [a, ewh.1]; exact .inl rfl
    · rw [ew0 j (by omega)]; exact .inr (T.w_in j (by omega))
  · intro j j' hj hj'
    rw [ew0 j (by omega), er _ (wne j (by omega))]
    by_cases a : j' = h
    · rw [a, ewh.1, erm]
      have := rle (T.w_in j (by omega))
      omega
    · rw [ew0 j' (by omega), er _ (wne j' (by omega))]; exact T.w_srt j j' hj (by omega)
  · intro j hj
    by_cases a : j = h
    · rw [a, ewh.1, ewh.2]; omega
    · rw [ew0 j (by omega)]
      rcases ewx j (by omega) with h1 | ⟨h1, h2⟩
      · rw [h1]; exact T.w_nx j (by omega)
      · rw [h1]; exact (List.getElem?_eq_some_iff.1 h2).1
  · intro v hv
    refine ⟨by omega, ?_⟩
    by_cases hh : h = 0
    · have hz0 := hz hh
      subst hh
      rw [ewh.1, erm]
      rcases (inS v).1 hv with a | ⟨j, hj, _⟩
      · rw [a, erm]; exact Nat.le_refl _
      · omega
    · rw [ew0 0 (by omega), er _ (wne 0 (by omega))]
      rcases (inS v).1 hv with a | a
      · rw [a, erm]; have := rle (T.w_in 0 (by omega)); omega
      · rw [er v (ne a)]; exact (T.bot v a).2
  · intro v hv
    rcases (inS v).1 hv with a | a
    · rw [a, elm, erm]; exact Nat.le_refl _
    · rw [er v (ne a), el v (ne a)]; exact T.low_le v a
  · intro v hv
    rcases (inS v).1 hv with a | a
    · exact ⟨m, (inS m).2 (.inl rfl), by rw [a, elm, erm], by rw [a]; exact Rch.refl _ _⟩
    · obtain ⟨u, hu, e, hr⟩ := T.low_in v a
      exact ⟨u, (inS u).2 (.inr hu), by rw [er u (ne hu), el v (ne a)]; exact e, hr⟩
  · intro v hv hb
    rcases (inS v).1 hv with a | a
    · exact absurd ((inW v).2 (.inl a)) hb
    · rw [er v (ne a), el v (ne a)]; exact T.black v a (fun w => hb ((inW v).2 (.inr w)))
  · intro v hv u hx
    rcases (inS v).1 hv with a | a
    · subst a; exact absurd hx exm
    · by_cases b : u = m
      · rw [b, erm]; omega
      · rw [er u b]; exact T.ex_vis v a u ((exd a hx).resolve_right b)
  · intro v j hv hj h1 h2 u hx hu
    rcases (inS v).1 hv with a | a
    · subst a; exact absurd hx exm
    · have hjh : j < h := by
        by_cases b : j = h
        · subst b
          rw [ewh.1, erm, er v (ne a)] at h1
          have := rle a
          omega
        · omega
      rw [ew0 j hjh, er _ (wne j hjh), er v (ne a)] at h1
      rw [ew0 j hjh, el _ (wne j hjh)]
      have h2' : j + 1 < h → r v < r (wn (j + 1)) := fun hlt => by
        have := h2 (by omega)
        rw [ew0 (j + 1) hlt, er _ (wne (j + 1) hlt), er v (ne a)] at this
        exact this
      rcases (inS u).1 hu with b | b
      · have h3 := T.low_le _ (T.w_in j hjh)
        have h4 := rle (T.w_in j hjh)
        rw [b, erm]; omega
      · rw [er u (ne b)]
        exact T.ex_low v j a hjh h1 h2' u ((exd a hx).resolve_right (ne b)) b
  · intro j hj v hv h1
    by_cases a : j = h
    · subst a
      rw [ewh.1] at h1 ⊢
      rcases (inS v).1 hv with b | b
      · rw [b]; exact Rch.refl _ _
      · rw [erm, er v (ne b)] at h1; have := rle b; omega
    · rw [ew0 j (by omega)] at h1 ⊢
      rcases (inS v).1 hv with b | b
      · rw [b]; exact top j (by omega)
      · rw [er _ (wne j (by omega)), er v (ne b)] at h1
        exact T.tree j (by omega) v b h1
  · intro v hv hvis hnS
    have hvm : v ≠ m := fun e => hnS ((inS v).2 (.inl e))
    rw [er v hvm] at hvis
    obtain ⟨h1, h2⟩ := T.done v hv hvis (fun x => hnS ((inS v).2 (.inr x)))
    refine ⟨fun u hu => ?_, h2⟩
    obtain ⟨h3, h4⟩ := h1 u hu
    have hum : u ≠ m := fun e => by rw [e, hw] at h3; omega
    exact ⟨by rw [er u hum]; exact h3, fun x => by rcases (inS u).1 x with b | b; exact hum b; exact h4 b⟩

/-- The top's next need, reached before, is passed: on the stack (low goes down to it) or done. -/
theorem Tj.pass (T : Tj n ns r l st z wn wx h cnt cy) (hh : 0 < h) {m : Nat} (hm : (ns (wn (h - 1)))[wx (h - 1)]? = some m) {l' wx' : Nat → Nat}
    (hvm : 0 < r m) (ew : ∀ j, j < h → j ≠ h - 1 → wx' j = wx j) (ewh : wx' (h - 1) = wx (h - 1) + 1)
    (el : ∀ v, v ≠ wn (h - 1) → l' v = l v) (hl : (InS st z m ∧ l' (wn (h - 1)) = min (l (wn (h - 1))) (r m)) ∨ (¬ InS st z m ∧ l' (wn (h - 1)) = l (wn (h - 1)))) :
    Tj n ns r l' st z wn wx' h cnt cy := by
  have htop : h - 1 < h := by omega
  have lle : ∀ v, l' v ≤ l v := by
    intro v
    by_cases e : v = wn (h - 1)
    · subst e
      rcases hl with ⟨_, a⟩ | ⟨_, a⟩
      · rw [a]; exact Nat.min_le_left _ _
      · rw [a]; exact Nat.le_refl _
    · rw [el v e]; exact Nat.le_refl _
  have winj : ∀ j, j < h → wn j = wn (h - 1) → j = h - 1 := fun j hj e => by
    rcases Nat.lt_or_ge j (h - 1) with a | a
    · have := T.w_srt j (h - 1) a htop; rw [e] at this; omega
    · omega
  have exd : ∀ {v u}, Exd ns wn wx' h v u → Exd ns wn wx h v u ∨ (v = wn (h - 1) ∧ u = m) := by
    intro v u hx
    rcases hx with a | ⟨j, c, hj, e, hc, hq⟩
    · exact .inl (.inl a)
    · by_cases b : j = h - 1
      · subst b
        rw [ewh] at hc
        by_cases d : c = wx (h - 1)
        · subst d
          rw [← e, hm] at hq
          cases hq
          exact .inr ⟨e.symm, rfl⟩
        · exact .inl (.inr ⟨h - 1, c, hj, e, by omega, hq⟩)
      · rw [ew j hj b] at hc
        exact .inl (.inr ⟨j, c, hj, e, hc, hq⟩)
  refine { T with w_nx := ?_, low_le := ?_, low_in := ?_, black := ?_, ex_vis := ?_, ex_low := ?_ }
  · intro j hj
    by_cases b : j = h - 1
    · subst b
      rw [ewh]
      rcases Nat.lt_or_ge (wx (h - 1)) (ns (wn (h - 1))).length with a | a
      · exact a
      · rw [List.getElem?_eq_none a] at hm; cases hm
    · rw [ew j hj b]; exact T.w_nx j hj
  · intro v hv; have := T.low_le v hv; have := lle v; omega
  · intro v hv
    by_cases e : v = wn (h - 1)
    · subst e
      rcases hl with ⟨hS, a⟩ | ⟨_, a⟩
      · rw [a]
        by_cases c : l (wn (h - 1)) ≤ r m
        · rw [Nat.min_eq_left c]; exact T.low_in _ hv
        · rw [Nat.min_eq_right (by omega)]
          exact ⟨m, hS, rfl, Rch.one (List.mem_of_getElem? hm)⟩
      · rw [a]; exact T.low_in _ hv
    · rw [el v e]; exact T.low_in v hv
  · intro v hv hb; have := T.black v hv hb; have := lle v; omega
  · intro v hv u hx
    rcases exd hx with a | ⟨_, a⟩
    · exact T.ex_vis v hv u a
    · rw [a]; exact hvm
  · intro v j hv hj h1 h2 u hx hu
    rcases exd hx with a | ⟨a, b⟩
    · have := T.ex_low v j hv hj h1 h2 u a hu
      have := lle (wn j)
      omega
    · subst a; subst b
      have hj' : j = h - 1 := by
        rcases Nat.lt_or_ge j (h - 1) with c | c
        · have d := h2 (by omega)
          by_cases e : j + 1 = h - 1
          · rw [e] at d; omega
          · have := T.w_srt (j + 1) (h - 1) (by omega) htop; omega
        · omega
      subst hj'
      rcases hl with ⟨_, c⟩ | ⟨c, _⟩
      · rw [c]; exact Nat.min_le_right _ _
      · exact absurd hu c

/-- The walk's top is through: its needs are followed, all of them. -/
theorem Tj.exd_top (_T : Tj n ns r l st z wn wx h cnt cy) (hh : 0 < h) (hfin : wx (h - 1) = (ns (wn (h - 1))).length) {u : Nat} (hu : u ∈ ns (wn (h - 1))) : Exd ns wn wx h (wn (h - 1)) u := by
  obtain ⟨c, hc⟩ := List.getElem?_of_mem hu
  have : c < (ns (wn (h - 1))).length := by
    rcases Nat.lt_or_ge c (ns (wn (h - 1))).length with a | a
    · exact a
    · rw [List.getElem?_eq_none a] at hc; cases hc
  exact .inr ⟨h - 1, c, by omega, rfl, by omega, hc⟩

/-- The top leaves the walk and stays on the stack: its low lies below it. -/
theorem Tj.fin (T : Tj n ns r l st z wn wx h cnt cy) (hh : 0 < h) (hfin : wx (h - 1) = (ns (wn (h - 1))).length) (hlow : l (wn (h - 1)) ≠ r (wn (h - 1))) {l' : Nat → Nat}
    (el : ∀ v, v ≠ wn (h - 2) → l' v = l v) (elp : 2 ≤ h → l' (wn (h - 2)) = min (l (wn (h - 2))) (l (wn (h - 1)))) : 2 ≤ h ∧ Tj n ns r l' st z wn wx (h - 1) cnt cy := by
  have htop : h - 1 < h := by omega
  have hnS := T.w_in (h - 1) htop
  have hle := T.low_le _ hnS
  have h2 : 2 ≤ h := by
    rcases Nat.lt_or_ge h 2 with a | a
    · exfalso
      obtain rfl : h = 1 := by omega
      obtain ⟨u, hu, e, _⟩ := T.low_in _ hnS
      have := (T.bot u hu).2
      have hle' : l (wn 0) ≤ r (wn 0) := hle
      have hlow' : l (wn 0) ≠ r (wn 0) := hlow
      have e' : r u = l (wn 0) := e
      omega
    · exact a
  refine ⟨h2, ?_⟩
  have hp : h - 2 < h := by omega
  have wlt := T.w_srt (h - 2) (h - 1) (by omega) htop
  have wne : wn (h - 1) ≠ wn (h - 2) := fun e => by rw [e] at wlt; omega
  have lle : ∀ v, l' v ≤ l v := by
    intro v
    by_cases e : v = wn (h - 2)
    · subst e; rw [elp h2]; exact Nat.min_le_left _ _
    · rw [el v e]; exact Nat.le_refl _
  have inW : ∀ v, InW wn h v → v = wn (h - 1) ∨ InW wn (h - 1) v := by
    rintro v ⟨j, hj, e⟩
    by_cases a : j = h - 1
    · subst a; exact .inl e.symm
    · exact .inr ⟨j, by omega, e⟩
  have topnot : ¬ InW wn (h - 1) (wn (h - 1)) := by
    rintro ⟨j, hj, e⟩
    have := T.w_srt j (h - 1) hj htop
    rw [e] at this; omega
  have exd : ∀ {v u}, Exd ns wn wx (h - 1) v u → Exd ns wn wx h v u := by
    intro v u hx
    rcases hx with ⟨a, b⟩ | ⟨j, c, hj, e, hc, hq⟩
    · by_cases hw : InW wn h v
      · rcases inW v hw with e | e
        · subst e; exact T.exd_top hh hfin b
        · exact absurd e a
      · exact .inl ⟨hw, b⟩
    · exact .inr ⟨j, c, by omega, e, hc, hq⟩
  refine { T with w_in := fun j hj => T.w_in j (by omega), w_srt := fun j j' hj hj' => T.w_srt j j' hj (by omega), w_nx := fun j hj => T.w_nx j (by omega), bot := fun v hv => ⟨by omega, (T.bot v hv).2⟩, low_le := ?_, low_in := ?_, black := ?_, ex_vis := fun v hv u hx => T.ex_vis v hv u (exd hx), ex_low := ?_, tree := fun j hj => T.tree j (by omega) }
  · intro v hv; have := T.low_le v hv; have := lle v; omega
  · intro v hv
    by_cases e : v = wn (h - 2)
    · subst e
      rw [elp h2]
      by_cases c : l (wn (h - 2)) ≤ l (wn (h - 1))
      · rw [Nat.min_eq_left c]; exact T.low_in _ hv
      · rw [Nat.min_eq_right (by omega)]
        obtain ⟨u, hu, e1, hr⟩ := T.low_in _ hnS
        exact ⟨u, hu, e1, (T.tree (h - 2) hp _ hnS (by omega)).trans hr⟩
    · rw [el v e]; exact T.low_in v hv
  · intro v hv hb
    by_cases e : v = wn (h - 1)
    · subst e
      rw [el _ wne]; omega
    · have hb' : ¬ InW wn h v := fun w => by
        rcases inW v w with a | a
        · exact e a
        · exact hb a
      have := T.black v hv hb'
      have := lle v
      omega
  · intro v j hv hj h1 h3 u hx hu
    have hx' := exd hx
    by_cases hjp : j = h - 2
    · subst hjp
      by_cases c : r (wn (h - 1)) ≤ r v
      · have := T.ex_low v (h - 1) hv htop c (fun a => by omega) u hx' hu
        rw [elp h2]
        have := Nat.min_le_right (l (wn (h - 2))) (l (wn (h - 1)))
        omega
      · have := T.ex_low v (h - 2) hv hp h1 (fun _ => by rw [show h - 2 + 1 = h - 1 by omega]; omega) u hx' hu
        have := lle (wn (h - 2))
        omega
    · have := T.ex_low v j hv (by omega) h1 (fun _ => h3 (by omega)) u hx' hu
      have := lle (wn j)
      omega

/-- The top leads a component: it and all above it on the stack. -/
theorem Tj.comp (T : Tj n ns r l st z wn wx h cnt cy) (hh : 0 < h) (hfin : wx (h - 1) = (ns (wn (h - 1))).length) (hlow : l (wn (h - 1)) = r (wn (h - 1))) {at0 : Nat} (hat : at0 < z) (hst : st at0 = wn (h - 1))
    {l' : Nat → Nat} {cy' : Nat → Bool} (el : ∀ v, v ≠ wn (h - 2) → l' v = l v) (elp : 2 ≤ h → l' (wn (h - 2)) = min (l (wn (h - 2))) (l (wn (h - 1))))
    (ec : ∀ v, (∀ j, at0 ≤ j → j < z → st j ≠ v) → cy' v = cy v) (ecs : ∀ j, at0 ≤ j → j < z → cy' (st j) = decide (1 < z - at0)) : Tj n ns r l' st at0 wn wx (h - 1) cnt cy' := by
  have htop : h - 1 < h := by omega
  have hnS := T.w_in (h - 1) htop
  have hN : r (st at0) = r (wn (h - 1)) := by rw [hst]
  -- the low of the one below stays
  have ell : ∀ v, InS st at0 v → l' v = l v := by
    intro v hv
    by_cases e : v = wn (h - 2)
    · by_cases h2 : 2 ≤ h
      · subst e
        rw [elp h2, hlow]
        have h1 := T.low_le _ (T.w_in (h - 2) (by omega))
        have h3 := T.w_srt (h - 2) (h - 1) (by omega) htop
        exact Nat.min_eq_left (by omega)
      · obtain rfl : h = 1 := by omega
        obtain ⟨j, hj, e'⟩ := hv
        have h4 := T.s_srt j at0 hj hat
        rw [e', e, hN] at h4
        have h5 : r (wn 0) < r (wn 0) := h4
        omega
    · exact el v e
  -- the segment
  have seg : ∀ v, InS st z v → (InS st at0 v ∧ r v < r (wn (h - 1))) ∨ (∃ j, at0 ≤ j ∧ j < z ∧ st j = v ∧ r (wn (h - 1)) ≤ r v) := by
    rintro v ⟨j, hj, e⟩
    rcases Nat.lt_or_ge j at0 with a | a
    · have := T.s_srt j at0 a hat
      rw [e, hN] at this
      exact .inl ⟨⟨j, a, e⟩, this⟩
    · refine .inr ⟨j, a, hj, e, ?_⟩
      by_cases b : j = at0
      · rw [← e, b, hN]; exact Nat.le_refl _
      · have := T.s_srt at0 j (by omega) hj
        rw [e, hN] at this; omega
  have sub : ∀ v, InS st at0 v → InS st z v := fun v ⟨j, hj, e⟩ => ⟨j, by omega, e⟩
  have low : ∀ v, InS st at0 v → r v < r (wn (h - 1)) := by
    rintro v ⟨j, hj, e⟩
    have := T.s_srt j at0 hj hat
    rw [e, hN] at this; exact this
  have hi : ∀ v, InS st z v → r (wn (h - 1)) ≤ r v → ¬ InS st at0 v := fun v _ a b => by have := low v b; omega
  -- every need of the segment's is followed
  have exs : ∀ v, InS st z v → r (wn (h - 1)) ≤ r v → ∀ u, u ∈ ns v → Exd ns wn wx h v u := by
    intro v hv a u hu
    by_cases hw : InW wn h v
    · obtain ⟨j, hj, e⟩ := hw
      have : j = h - 1 := by
        rcases Nat.lt_or_ge j (h - 1) with b | b
        · have := T.w_srt j (h - 1) b htop; rw [e] at this; omega
        · omega
      subst this; subst e
      exact T.exd_top hh hfin hu
    · exact .inl ⟨hw, hu⟩
  have out : ∀ v, InS st z v → r (wn (h - 1)) ≤ r v → ∀ u, u ∈ ns v → 0 < r u ∧ ¬ InS st at0 u := by
    intro v hv a u hu
    have hx := exs v hv a u hu
    refine ⟨T.ex_vis v hv u hx, fun hb => ?_⟩
    have := T.ex_low v (h - 1) hv htop a (fun b => by omega) u hx (sub u hb)
    have := low u hb
    omega
  -- segment and done together are closed
  have clo : ∀ (k v u : Nat), v < n → 0 < r v → ¬ InS st at0 v → Pth (Edg ns) k v u → u < n ∧ 0 < r u ∧ ¬ InS st at0 u := by
    intro k
    induction k with
    | zero => intro v u h1 h2 h3 e; have : v = u := e; subst this; exact ⟨h1, h2, h3⟩
    | succ k ih =>
      rintro v u h1 h2 h3 ⟨c, hc, hp⟩
      have hcn := T.rows v h1 c hc
      by_cases hv : InS st z v
      · rcases seg v hv with ⟨a, _⟩ | ⟨_, _, _, _, a⟩
        · exact absurd a h3
        · obtain ⟨b1, b2⟩ := out v hv a c hc
          exact ih c u hcn b1 b2 hp
      · obtain ⟨b1, b2⟩ := (T.done v h1 h2 hv).1 c hc
        exact ih c u hcn b1 (fun x => b2 (sub c x)) hp
  have dcl : ∀ (k v u : Nat), v < n → 0 < r v → ¬ InS st z v → Pth (Edg ns) k v u → ¬ InS st z u := by
    intro k
    induction k with
    | zero => intro v u h1 h2 h3 e; have : v = u := e; subst this; exact h3
    | succ k ih =>
      rintro v u h1 h2 h3 ⟨c, hc, hp⟩
      obtain ⟨b1, b2⟩ := (T.done v h1 h2 h3).1 c hc
      exact ih c u (T.rows v h1 c hc) b1 b2 hp
  -- each of the segment reaches the top
  have back : ∀ (k v : Nat), r v ≤ k → InS st z v → r (wn (h - 1)) ≤ r v → Rch (Edg ns) v (wn (h - 1)) := by
    intro k
    induction k with
    | zero => intro v hk hv _; have := (T.in_lt hv).2; omega
    | succ k ih =>
      intro v hk hv a
      by_cases e : v = wn (h - 1)
      · rw [e]; exact Rch.refl _ _
      · have hb : ¬ InW wn h v := by
          rintro ⟨j, hj, e'⟩
          rcases Nat.lt_or_ge j (h - 1) with b | b
          · have := T.w_srt j (h - 1) b htop; rw [e'] at this; omega
          · have : j = h - 1 := by omega
            subst this; exact e e'.symm
        have hlt := T.black v hv hb
        obtain ⟨u, hu, e1, kk, hp⟩ := T.low_in v hv
        have hin := T.in_lt hv
        have hcl := clo kk v u hin.1 hin.2 (hi v hv a) hp
        have hru : r (wn (h - 1)) ≤ r u := by
          rcases seg u hu with ⟨b, _⟩ | ⟨_, _, _, _, b⟩
          · exact absurd b hcl.2.2
          · exact b
        exact Rch.trans (b := u) ⟨kk, hp⟩ (ih u (by omega) hu hru)
  have fwd : ∀ v, InS st z v → r (wn (h - 1)) ≤ r v → Rch (Edg ns) (wn (h - 1)) v := fun v hv a => T.tree (h - 1) htop v hv a
  have scc : ∀ v, InS st z v → r (wn (h - 1)) ≤ r v → (decide (1 < z - at0) = true ↔ OnC ns v) := by
    intro v hv a
    rw [decide_eq_true_iff]
    constructor
    · intro hsz
      obtain ⟨j, hj, e⟩ := hv
      have hja : at0 ≤ j := by
        rcases Nat.lt_or_ge j at0 with b | b
        · exact absurd ⟨j, b, e⟩ (hi v ⟨j, hj, e⟩ a)
        · exact b
      obtain ⟨i, h1, h2, h3⟩ : ∃ i, at0 ≤ i ∧ i < z ∧ i ≠ j := by
        by_cases c : j = at0
        · exact ⟨at0 + 1, by omega, by omega, by omega⟩
        · exact ⟨at0, by omega, by omega, fun x => c x.symm⟩
      have hiS : InS st z (st i) := ⟨i, h2, rfl⟩
      have hir : r (wn (h - 1)) ≤ r (st i) := by
        by_cases c : i = at0
        · rw [c, hN]; exact Nat.le_refl _
        · have := T.s_srt at0 i (by omega) h2; omega
      refine ⟨st i, fun e' => h3 ?_, (back _ v (Nat.le_refl _) ⟨j, hj, e⟩ a).trans (fwd _ hiS hir), (back _ _ (Nat.le_refl _) hiS hir).trans (fwd v ⟨j, hj, e⟩ a)⟩
      rcases Nat.lt_trichotomy i j with c | c | c
      · have := T.s_srt i j c hj; rw [e', e] at this; omega
      · exact c
      · have := T.s_srt j i c h2; rw [e', e] at this; omega
    · rintro ⟨u, hne, ⟨k1, p1⟩, k2, p2⟩
      have hin := T.in_lt hv
      have hcl := clo k1 v u hin.1 hin.2 (hi v hv a) p1
      have huS : InS st z u := by
        apply Classical.byContradiction
        intro hn
        exact dcl k2 u v hcl.1 hcl.2.1 hn p2 hv
      obtain ⟨j, hj, e⟩ := hv
      obtain ⟨i, hi', e'⟩ := huS
      have hja : at0 ≤ j := by
        rcases Nat.lt_or_ge j at0 with b | b
        · exact absurd ⟨j, b, e⟩ (hi v ⟨j, hj, e⟩ a)
        · exact b
      have hia : at0 ≤ i := by
        rcases Nat.lt_or_ge i at0 with b | b
        · exact absurd ⟨i, b, e'⟩ hcl.2.2
        · exact b
      have : i ≠ j := fun x => hne (by rw [← e, ← e', x])
      omega
  have exd : ∀ {v u}, InS st at0 v → Exd ns wn wx (h - 1) v u → Exd ns wn wx h v u := by
    intro v u hv hx
    rcases hx with ⟨a, b⟩ | ⟨j, c, hj, e, hc, hq⟩
    · refine .inl ⟨fun ⟨j, hj, e⟩ => ?_, b⟩
      by_cases d : j = h - 1
      · subst d; have := low v hv; rw [e] at this; omega
      · exact a ⟨j, by omega, e⟩
    · exact .inr ⟨j, c, by omega, e, hc, hq⟩
  have wS : ∀ j, j < h - 1 → InS st at0 (wn j) := by
    intro j hj
    rcases seg _ (T.w_in j (by omega)) with ⟨a, _⟩ | ⟨_, _, _, _, a⟩
    · exact a
    · have := T.w_srt j (h - 1) hj htop; omega
  refine ⟨T.rows, fun j hj => T.s_lt j (by omega), fun j hj => T.s_vis j (by omega), fun j j' hj hj' => T.s_srt j j' hj (by omega), T.r_cnt, wS, fun j j' hj hj' => T.w_srt j j' hj (by omega), fun j hj => T.w_nx j (by omega), ?_, ?_, ?_, ?_, ?_, ?_, ?_, ?_⟩
  · intro v hv
    refine ⟨?_, (T.bot v (sub v hv)).2⟩
    rcases Nat.eq_zero_or_pos (h - 1) with e | e
    · exfalso
      have h1 := (T.bot v (sub v hv)).2
      have h2 := low v hv
      rw [e] at h2
      omega
    · exact e
  · intro v hv; rw [ell v hv]; exact T.low_le v (sub v hv)
  · intro v hv
    rw [ell v hv]
    obtain ⟨u, hu, e, hr⟩ := T.low_in v (sub v hv)
    refine ⟨u, ?_, e, hr⟩
    rcases seg u hu with ⟨a, _⟩ | ⟨_, _, _, _, a⟩
    · exact a
    · have h1 := T.low_le v (sub v hv)
      have h2 := low v hv
      omega
  · intro v hv hb
    rw [ell v hv]
    refine T.black v (sub v hv) (fun ⟨j, hj, e⟩ => ?_)
    by_cases d : j = h - 1
    · subst d; have := low v hv; rw [e] at this; omega
    · exact hb ⟨j, by omega, e⟩
  · intro v hv u hx; exact T.ex_vis v (sub v hv) u (exd hv hx)
  · intro v j hv hj h1 h2 u hx hu
    rw [ell _ (wS j hj)]
    refine T.ex_low v j (sub v hv) (by omega) h1 (fun a => ?_) u (exd hv hx) (sub u hu)
    by_cases d : j + 1 = h - 1
    · rw [d]; exact low v hv
    · exact h2 (by omega)
  · intro j hj v hv h1; exact T.tree j (by omega) v (sub v hv) h1
  · intro v hv hvis hnS
    by_cases hS : InS st z v
    · rcases seg v hS with ⟨a, _⟩ | ⟨j, hj1, hj2, e, a⟩
      · exact absurd a hnS
      · refine ⟨out v hS a, ?_⟩
        have : cy' v = decide (1 < z - at0) := by rw [← e]; exact ecs j hj1 hj2
        rw [this]
        exact scc v hS a
    · obtain ⟨h1, h2⟩ := T.done v hv hvis hS
      refine ⟨fun u hu => ⟨(h1 u hu).1, fun x => (h1 u hu).2 (sub u x)⟩, ?_⟩
      rw [ec v (fun j hj hjz e => hS ⟨j, hjz, e⟩)]
      exact h2

/-- The walk is over: all that was reached is answered. -/
theorem Tj.answer (T : Tj n ns r l st z wn wx 0 cnt cy) {v : Nat} (hv : v < n) (hr : 0 < r v) : (cy v = true ↔ OnC ns v) :=
  (T.done v hv hr (fun hS => by have := (T.bot v hS).1; omega)).2
theorem Tj.empty (T : Tj n ns r l st z wn wx 0 cnt cy) : z = 0 := by
  rcases Nat.eq_zero_or_pos z with e | e
  · exact e
  · have := (T.bot (st 0) ⟨0, e, rfl⟩).1; omega

/-- Where nobody needs itself, to lie with another one on a cycle is to be reached from oneself. -/
theorem onc_iff {v : Nat} (hself : ∀ v, v ∉ ns v) : OnC ns v ↔ ∃ k, Pth (Edg ns) (k + 1) v v := by
  constructor
  · rintro ⟨u, hne, ⟨k1, p1⟩, k2, p2⟩
    cases k1 with
    | zero => have : v = u := p1; exact absurd this.symm hne
    | succ k1 => exact ⟨k1 + k2, by have := p1.trans p2; rw [show k1 + 1 + k2 = k1 + k2 + 1 by omega] at this; exact this⟩
  · rintro ⟨k, c, hc, hp⟩
    exact ⟨c, fun e => by subst e; exact hself c hc, Rch.one hc, k, hp⟩
end
end Go.Proofs.Qxb6602369a
