namespace Go.Proofs.Qxb6602369a

/-! Plain mathematics: paths; the walk breadth first. -/

/-- A walk of k needs from a to b. -/
def Pth (E : Nat → Nat → Prop) : Nat → Nat → Nat → Prop
  | 0, a, b => a = b
  | k + 1, a, b => ∃ c, E a c ∧ Pth E k c b

theorem Pth.trans {E : Nat → Nat → Prop} : ∀ {j : Nat} {k a b c : Nat}, Pth E j a b → Pth E k b c → Pth E (j + k) a c
  | 0, k, a, b, c, h, h' => by
    have : a = b := h
    subst this
    rw [Nat.zero_add]; exact h'
  | j + 1, k, a, b, c, ⟨d, h1, h2⟩, h' => by
    rw [show j + 1 + k = (j + k) + 1 by omega]
    exact ⟨d, h1, h2.trans h'⟩
theorem Pth.one {E : Nat → Nat → Prop} {a b : Nat} (h : E a b) : Pth E 1 a b := ⟨b, h, rfl⟩
theorem Pth.snoc {E : Nat → Nat → Prop} {k a b c : Nat} (h : Pth E k a b) (h' : E b c) : Pth E (k + 1) a c := h.trans (Pth.one h')

/-- b is reached from a. -/
def Rch (E : Nat → Nat → Prop) (a b : Nat) : Prop := ∃ k, Pth E k a b
theorem Rch.refl (E : Nat → Nat → Prop) (a : Nat) : Rch E a a := ⟨0, rfl⟩
theorem Rch.trans {E : Nat → Nat → Prop} {a b c : Nat} : Rch E a b → Rch E b c → Rch E a c := fun ⟨j, h⟩ ⟨k, h'⟩ => ⟨j + k, h.trans h'⟩
theorem Rch.one {E : Nat → Nat → Prop} {a b : Nat} (h : E a b) : Rch E a b := ⟨1, Pth.one h⟩

/-- The parent's index, followed r times, leads to 0. -/
def Chn (p : Nat → Nat) : Nat → Nat → Prop
  | 0, t => t = 0
  | r + 1, t => 1 ≤ t ∧ Chn p r (p t)

/-- The state of a walk breadth first from s. q: what has been enqueued, in order, m of them; p: the index of the one by which it was reached; those before i are through; of the i-th the first k needs (of its row 'ns') are. -/
structure Bfs (ns : Nat → List Nat) (s : Nat) (q : Nat → Nat) (m : Nat) (p : Nat → Nat) (i k : Nat) : Prop where
  zero : q 0 = s
  pos : 0 < m
  inj : ∀ t t', t < m → t' < m → q t = q t' → t = t'
  par : ∀ t, 1 ≤ t → t < m → p t < t ∧ p t ≤ i ∧ q t ∈ ns (q (p t))
  mono : ∀ t t', 1 ≤ t → t ≤ t' → t' < m → p t ≤ p t'
  least : ∀ t, 1 ≤ t → t < m → ∀ j, j < p t → q t ∉ ns (q j)
  asc : ∀ t t', 1 ≤ t → t < t' → t' < m → p t = p t' → q t < q t'
  closed : ∀ j, j < i → ∀ y, y ∈ ns (q j) → y ≠ s ∧ ∃ t, t < m ∧ q t = y
  seen : ∀ j, j < k → ∀ y, (ns (q i))[j]? = some y → y ≠ s ∧ ∃ t, t < m ∧ q t = y
  now : ∀ t, 1 ≤ t → t < m → p t = i → ∃ j, j < k ∧ (ns (q i))[j]? = some (q t)

section
variable {ns : Nat → List Nat} {s : Nat} {q : Nat → Nat} {m : Nat} {p : Nat → Nat} {i k : Nat}

theorem Bfs.start (ns : Nat → List Nat) (s : Nat) (p : Nat → Nat) : Bfs ns s (fun _ => s) 1 p 0 0 where
  zero := rfl
  pos := by omega
  inj := fun t t' h h' _ => by omega
  par := fun t h h' => by omega
  mono := fun t t' h h' h'' => by omega
  least := fun t h h' => by omega
  asc := fun t t' h h' h'' => by omega
  closed := fun j h => by omega
  seen := fun j h => by omega
  now := fun t h h' => by omega

/-- The next need of the i-th has been met before. -/
theorem Bfs.skip (v : Bfs ns s q m p i k) {y : Nat} (hy : (ns (q i))[k]? = some y) (hs : y ≠ s) (h : ∃ t, t < m ∧ q t = y) : Bfs ns s q m p i (k + 1) :=
  { v with
    seen := fun j hj y' h' => by
      by_cases e : j = k
      · subst e; rw [hy] at h'; cases h'; exact ⟨hs, h⟩
      · exact v.seen j (by omega) y' h'
    now := fun t h1 h2 h3 => by
      obtain ⟨j, a, b⟩ := v.now t h1 h2 h3
      exact ⟨j, by omega, b⟩ }

/-- The next need of the i-th is new: it is enqueued. -/
theorem Bfs.push (v : Bfs ns s q m p i k) (hi : i < m) (hsort : ∀ a b x y : Nat, a < b → (ns (q i))[a]? = some x → (ns (q i))[b]? = some y → x < y) {y : Nat} (hy : (ns (q i))[k]? = some y) (hs : y ≠ s) (hnew : ∀ t, t < m → q t ≠ y)
    {q' p' : Nat → Nat} (e1 : ∀ t, t < m → q' t = q t) (e3 : q' m = y) (e2 : ∀ t, t < m → p' t = p t) (e4 : p' m = i) : Bfs ns s q' (m + 1) p' i (k + 1) := by
  have epm : ∀ t, 1 ≤ t → t < m → p t < m := fun t h h' => by have := v.par t h h'; omega
  have cas : ∀ t, t < m + 1 → t = m ∨ t < m := fun t h => by omega
  refine ⟨?_, by omega, ?_, ?_, ?_, ?_, ?_, ?_, ?_, ?_⟩
  · rw [e1 0 v.pos]; exact v.zero
  · intro t t' h h' e
    rcases cas t h with a | a <;> rcases cas t' h' with b | b
    · omega
    · rw [a, e3, e1 t' b] at e; exact absurd e.symm (hnew t' b)
    · rw [b, e3, e1 t a] at e; exact absurd e (hnew t a)
    · rw [e1 t a, e1 t' b] at e; exact v.inj t t' a b e
  · intro t h h'
    rcases cas t h' with a | a
    · rw [a, e4, e3, e1 i hi]
      exact ⟨hi, Nat.le_refl _, List.mem_of_getElem? hy⟩
    · rw [e2 t a, e1 t a, e1 (p t) (epm t h a)]
      exact v.par t h a
  · intro t t' h h' h''
    rcases cas t' h'' with b | b
    · rw [b, e4]
      rcases cas t (by omega) with a | a
      · rw [a, e4]; exact Nat.le_refl _
      · rw [e2 t a]; exact (v.par t h a).2.1
    · rw [e2 t (by omega), e2 t' b]; exact v.mono t t' h h' b
  · intro t h h' j hj
    rcases cas t h' with a | a
    · rw [a, e4] at hj
      rw [a, e3, e1 j (by omega)]
      intro hm
      obtain ⟨_, t', ht', e⟩ := v.closed j hj y hm
      exact hnew t' ht' e
    · rw [e2 t a] at hj
      have := epm t h a
      rw [e1 t a, e1 j (by omega)]
      exact v.least t h a j hj
  · intro t t' h h' h'' e
    have a : t < m := by omega
    rw [e1 t a]
    rw [e2 t a] at e
    rcases cas t' h'' with b | b
    · rw [b, e4] at e
      rw [b, e3]
      obtain ⟨j, hj, hq⟩ := v.now t h a e
      exact hsort j k _ _ hj hq hy
    · rw [e2 t' b] at e
      rw [e1 t' b]
      exact v.asc t t' h h' b e
  · intro j hj y' hy'
    rw [e1 j (by omega)] at hy'
    obtain ⟨a, t, ht, e⟩ := v.closed j hj y' hy'
    exact ⟨a, t, by omega, by rw [e1 t ht]; exact e⟩
  · intro j hj y' hy'
    rw [e1 i hi] at hy'
    by_cases e : j = k
    · subst e
      rw [hy] at hy'; cases hy'
      exact ⟨hs, m, by omega, e3⟩
    · obtain ⟨a, t, ht, e⟩ := v.seen j (by omega) y' hy'
      exact ⟨a, t, by omega, by rw [e1 t ht]; exact e⟩
  · intro t h h' e
    rw [e1 i hi]
    rcases cas t h' with a | a
    · rw [a, e3]
      exact ⟨k, by omega, hy⟩
    · rw [e2 t a] at e
      rw [e1 t a]
      obtain ⟨j, hj, hq⟩ := v.now t h a e
      exact ⟨j, by omega, hq⟩

/-- The i-th is through. -/
theorem Bfs.next (v : Bfs ns s q m p i k) (hi : i < m) (hk : (ns (q i)).length ≤ k) : Bfs ns s q m p (i + 1) 0 :=
  { v with
    par := fun t h h' => by have := v.par t h h'; exact ⟨this.1, by omega, this.2.2⟩
    closed := fun j hj y hy => by
      by_cases e : j = i
      · subst e
        obtain ⟨c, hc⟩ := List.getElem?_of_mem hy
        have : c < (ns (q j)).length := by
          rcases Nat.lt_or_ge c (ns (q j)).length with h | h
          · exact h
          · rw [List.getElem?_eq_none h] at hc; cases hc
        exact v.seen c (by omega) y hc
      · exact v.closed j (by omega) y hy
    seen := fun j hj => by omega
    now := fun t h h' e => by have := v.par t h h'; omega }

/-! What the walk has found. -/
theorem chn_all (hp : ∀ t, 1 ≤ t → t < m → p t < t) : ∀ t, t < m → ∃ r, Chn p r t := by
  intro t
  induction t using Nat.strongRecOn with
  | _ t ih =>
    intro ht
    by_cases e : t = 0
    · exact ⟨0, e⟩
    · have h := hp t (by omega) ht
      obtain ⟨r, hr⟩ := ih (p t) h (by omega)
      exact ⟨r + 1, by omega, hr⟩
theorem chn_mono (hm : ∀ t t', 1 ≤ t → t ≤ t' → t' < m → p t ≤ p t') (hp : ∀ t, 1 ≤ t → t < m → p t < t) : ∀ (r r' t t' : Nat), t ≤ t' → t' < m → Chn p r t → Chn p r' t' → r ≤ r'
  | 0, _, _, _, _, _, _, _ => Nat.zero_le _
  | r + 1, 0, t, t', h, h', ⟨a, _⟩, b => by have : t' = 0 := b; omega
  | r + 1, r' + 1, t, t', h, h', ⟨a, b⟩, ⟨a', b'⟩ => by
    have := chn_mono hm hp r r' (p t) (p t') (hm t t' a h h') (by have := hp t' a' h'; omega) b b'
    omega

/-- The j-th of a chain of r to t: from below. -/
def anc (p : Nat → Nat) : Nat → Nat → Nat
  | 0, t => t
  | j + 1, t => anc p j (p t)
theorem anc_chn : ∀ (j r t : Nat), j ≤ r → Chn p r t → Chn p (r - j) (anc p j t)
  | 0, _, _, _, h => h
  | j + 1, 0, _, h, _ => by omega
  | j + 1, r + 1, t, h, ⟨_, b⟩ => by
    rw [show r + 1 - (j + 1) = r - j by omega]
    exact anc_chn j r (p t) (by omega) b
theorem anc_step : ∀ (j t : Nat), anc p (j + 1) t = p (anc p j t)
  | 0, _ => rfl
  | j + 1, t => by
    show anc p (j + 1) (p t) = p (anc p j (p t))
    exact anc_step j (p t)

/-- The edge relation of the rows. -/
def Edg (ns : Nat → List Nat) (a b : Nat) : Prop := b ∈ ns a

/-- A node among those through, followed by one of its needs: the need lies at an index whose parent is no later. -/
theorem Bfs.follow (v : Bfs ns s q m p i k) {j y : Nat} (hj : j < i) (hy : y ∈ ns (q j)) : y ≠ s ∧ ∃ t, 1 ≤ t ∧ t < m ∧ q t = y ∧ p t ≤ j := by
  obtain ⟨hs, t, ht, e⟩ := v.closed j hj y hy
  have h1 : 1 ≤ t := by
    by_cases h0 : t = 0
    · subst h0; rw [v.zero] at e; exact absurd e.symm hs
    · omega
  refine ⟨hs, t, h1, ht, e, ?_⟩
  rcases Nat.lt_or_ge j (p t) with h | h
  · exact absurd (by rw [e]; exact hy) (v.least t h1 ht j h)
  · exact h

/-- No walk back to s is shorter than the chain to the i-th, and one. -/
theorem Bfs.no_short (v : Bfs ns s q m p i k) (hi : i < m) {r : Nat} (hr : Chn p r i) : ∀ (d j a : Nat), 1 ≤ d → j < m → Chn p a j → a + d ≤ r → ¬ Pth (Edg ns) d (q j) s
  | 0, _, _, h, _, _, _, _ => absurd h (by omega)
  | d + 1, j, a, _, hj, ha, had, ⟨y, hy, hp⟩ => by
    have hpar : ∀ t, 1 ≤ t → t < m → p t < t := fun t h h' => (v.par t h h').1
    have hji : j < i := by
      rcases Nat.lt_or_ge j i with h | h
      · exact h
      · have := chn_mono v.mono hpar r a i j h hj hr ha
        omega
    obtain ⟨hs, t, h1, ht, e, hpt⟩ := v.follow hji hy
    obtain ⟨a', ha'⟩ := chn_all hpar t ht
    cases a' with
    | zero => have : t = 0 := ha'; omega
    | succ a' =>
      have h2 := chn_mono v.mono hpar a' a (p t) j hpt hj ha'.2 ha
      cases d with
      | zero => exact hs hp
      | succ d =>
        subst e
        exact v.no_short hi hr (d + 1) t (a' + 1) (by omega) ht ha' (by omega) hp

/-- The chain's own way back. -/
theorem Bfs.way (v : Bfs ns s q m p i k) (hi : i < m) (hc : s ∈ ns (q i)) {r : Nat} (hr : Chn p r i) : ∀ j, j ≤ r → anc p j i < m ∧ anc p j i ≤ i ∧ Pth (Edg ns) (j + 1) (q (anc p j i)) s
  | 0, _ => ⟨hi, Nat.le_refl _, Pth.one hc⟩
  | j + 1, h => by
    obtain ⟨h1, h2, h3⟩ := v.way hi hc hr j (by omega)
    have hch := anc_chn (p := p) j r i (by omega) hr
    obtain ⟨b, hb⟩ : ∃ b, r - j = b + 1 := ⟨r - j - 1, by omega⟩
    rw [hb] at hch
    have hpar := v.par _ hch.1 h1
    rw [anc_step]
    exact ⟨by omega, by omega, _, hpar.2.2, h3⟩

/-- Whoever lies before the chain's j-th has no walk back to s as short as the chain's. -/
theorem Bfs.dom (v : Bfs ns s q m p i k) (hi : i < m) (hc : s ∈ ns (q i)) {r : Nat} (hr : Chn p r i) : ∀ (d t : Nat), 1 ≤ d → d ≤ r + 1 → t < anc p (d - 1) i → ¬ Pth (Edg ns) d (q t) s
  | 0, _, h, _, _, _ => absurd h (by omega)
  | d + 1, t, _, hdr, ht, ⟨y, hy, hp⟩ => by
    rw [Nat.add_sub_cancel] at ht
    have hw := v.way hi hc hr d (by omega)
    obtain ⟨hs, u, h1, hu, e, hpu⟩ := v.follow (j := t) (by omega) hy
    cases d with
    | zero => exact hs hp
    | succ d =>
      subst e
      refine v.dom hi hc hr (d + 1) u (by omega) (by omega) ?_ hp
      rw [Nat.add_sub_cancel]
      have hw2 := v.way hi hc hr d (by omega)
      have hch := anc_chn (p := p) d r i (by omega) hr
      obtain ⟨b, hb⟩ : ∃ b, r - d = b + 1 := ⟨r - d - 1, by omega⟩
      rw [hb] at hch
      rw [anc_step] at ht
      rcases Nat.lt_or_ge u (anc p d i) with h | h
      · exact h
      · have := v.mono (anc p d i) u hch.1 h hu
        omega

/-- The chain's next is the least need from which the way back is that short. -/
theorem Bfs.least_next (v : Bfs ns s q m p i k) (hi : i < m) (hc : s ∈ ns (q i)) {r : Nat} (hr : Chn p r i) {j : Nat} (hj : j + 1 ≤ r) {y : Nat} (hy : y ∈ ns (q (anc p (j + 1) i))) (hp : Pth (Edg ns) (j + 1) y s) : q (anc p j i) ≤ y := by
  rcases Nat.lt_or_ge y (q (anc p j i)) with hlt | h
  · exfalso
    have hw := v.way hi hc hr j (by omega)
    have hch := anc_chn (p := p) j r i (by omega) hr
    obtain ⟨b, hb⟩ : ∃ b, r - j = b + 1 := ⟨r - j - 1, by omega⟩
    rw [hb] at hch
    have hpar := v.par _ hch.1 hw.1
    have hsj : anc p (j + 1) i < i := by rw [anc_step]; omega
    obtain ⟨hs, t, h1, ht, e, hpt⟩ := v.follow hsj hy
    rw [anc_step] at hpt
    subst e
    have hta : t < anc p j i := by
      rcases Nat.lt_trichotomy t (anc p j i) with h | h | h
      · exact h
      · rw [h] at hlt; omega
      · have h3 := v.mono (anc p j i) t hch.1 (by omega) ht
        have h4 := v.asc (anc p j i) t hch.1 h ht (by omega)
        omega
    exact v.dom hi hc hr (j + 1) t (by omega) (by omega) (by rw [Nat.add_sub_cancel]; exact hta) hp
  · exact h

/-- What is known of the cycle that is found: its j-th, counted from s: 'c j'. -/
structure Cyc (ns : Nat → List Nat) (s r : Nat) (c : Nat → Nat) : Prop where
  zero : c 0 = s
  back : Pth (Edg ns) (r + 1) s s
  short : ∀ d, 1 ≤ d → d ≤ r → ¬ Pth (Edg ns) d s s
  mem : ∀ j, j < r → c (j + 1) ∈ ns (c j)
  way : ∀ j, j < r → Pth (Edg ns) (r - j) (c (j + 1)) s ∧ ∀ d, d < r - j → ¬ Pth (Edg ns) d (c (j + 1)) s
  least : ∀ j, j < r → ∀ y, y ∈ ns (c j) → Pth (Edg ns) (r - j) y s → c (j + 1) ≤ y

theorem Bfs.found (v : Bfs ns s q m p i k) (hi : i < m) (hc : s ∈ ns (q i)) {r : Nat} (hr : Chn p r i) : Cyc ns s r (fun j => q (anc p (r - j) i)) := by
  have h0 : anc p r i = 0 := by have := anc_chn (p := p) r r i (Nat.le_refl _) hr; rw [Nat.sub_self] at this; exact this
  have hz : q (anc p r i) = s := by rw [h0]; exact v.zero
  refine ⟨hz, ?_, ?_, ?_, ?_, ?_⟩
  · have := (v.way hi hc hr r (Nat.le_refl _)).2.2
    rw [hz] at this
    exact this
  · intro d h1 h2 h3
    rw [← v.zero] at h3
    exact v.no_short hi hr d 0 0 h1 v.pos rfl (by omega) (by rw [v.zero] at h3; rw [v.zero]; exact h3)
  · intro j hj
    obtain ⟨b, hb⟩ : ∃ b, r - j = b + 1 := ⟨r - j - 1, by omega⟩
    have hw := v.way hi hc hr b (by omega)
    have hch := anc_chn (p := p) b r i (by omega) hr
    rw [show r - b = j + 1 by omega] at hch
    have hpar := v.par _ hch.1 hw.1
    show q (anc p (r - (j + 1)) i) ∈ ns (q (anc p (r - j) i))
    rw [show r - (j + 1) = b by omega, hb, anc_step]
    exact hpar.2.2
  · intro j hj
    obtain ⟨b, hb⟩ : ∃ b, r - j = b + 1 := ⟨r - j - 1, by omega⟩
    have hw := v.way hi hc hr b (by omega)
    have hch := anc_chn (p := p) b r i (by omega) hr
    rw [show r - b = j + 1 by omega] at hch
    show Pth (Edg ns) (r - j) (q (anc p (r - (j + 1)) i)) s ∧ ∀ d, d < r - j → ¬ Pth (Edg ns) d (q (anc p (r - (j + 1)) i)) s
    rw [show r - (j + 1) = b by omega, hb]
    refine ⟨hw.2.2, fun d hd hp => ?_⟩
    cases d with
    | zero =>
      have e : q (anc p b i) = s := hp
      rw [← v.zero] at e
      have := v.inj _ _ hw.1 v.pos e
      have := hch.1
      omega
    | succ d => exact v.no_short hi hr (d + 1) _ (j + 1) (by omega) hw.1 hch (by omega) hp
  · intro j hj y hy hp
    obtain ⟨b, hb⟩ : ∃ b, r - j = b + 1 := ⟨r - j - 1, by omega⟩
    show q (anc p (r - (j + 1)) i) ≤ y
    rw [show r - (j + 1) = b by omega]
    rw [hb] at hp
    have hy' : y ∈ ns (q (anc p (r - j) i)) := hy
    rw [hb] at hy'
    exact v.least_next hi hc hr (by omega) hy' hp
end
end Go.Proofs.Qxb6602369a
