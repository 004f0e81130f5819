import Derived.Test.Qxb6602369aG
namespace Go.Proofs.Qxb6602369a

/-- Fewer holes than pigeons. -/
theorem pigeon : ∀ (n m : Nat) (q : Nat → Nat), (∀ t, t < m → q t < n) → (∀ t t', t < m → t' < m → q t = q t' → t = t') → m ≤ n
  | 0, m, q, h, _ => by
    rcases Nat.eq_zero_or_pos m with e | e
    · omega
    · exact absurd (h 0 e) (by omega)
  | n + 1, m, q, h, hi => by
    by_cases hex : ∃ t, t < m ∧ q t = n
    · obtain ⟨t0, ht0, e⟩ := hex
      have := pigeon n (m - 1) (fun t => if t < t0 then q t else q (t + 1)) (fun t ht => by
        by_cases a : t < t0
        · simp only [a, if_true]
          have h1 := h t (by omega)
          have h2 : q t ≠ n := fun e' => by have := hi t t0 (by omega) ht0 (e'.trans e.symm); omega
          omega
        · simp only [a, if_false]
          have h1 := h (t + 1) (by omega)
          have h2 : q (t + 1) ≠ n := fun e' => by have := hi (t + 1) t0 (by omega) ht0 (e'.trans e.symm); omega
          omega) (fun t t' ht ht' e' => by
        by_cases a : t < t0 <;> by_cases b : t' < t0
        · simp only [a, b, if_true] at e'; exact hi t t' (by omega) (by omega) e'
        · simp only [a, b, if_true, if_false] at e'; have := hi t (t' + 1) (by omega) (by omega) e'; omega
        · simp only [a, b, if_true, if_false] at e'; have := hi (t + 1) t' (by omega) (by omega) e'; omega
        · simp only [a, b, if_false] at e'; have := hi (t + 1) (t' + 1) (by omega) (by omega) e'; omega)
      omega
    · have := pigeon n m q (fun t ht => by
        have h1 := h t ht
        have h2 : q t ≠ n := fun e => hex ⟨t, ht, e⟩
        omega) hi
      omega

/-- Nothing is left in the queue: nobody who is reached from s needs s. -/
theorem Bfs.exhaust {ns : Nat → List Nat} {s : Nat} {q : Nat → Nat} {m : Nat} {p : Nat → Nat} {k : Nat} (v : Bfs ns s q m p m k) : ∀ (d t : Nat), t < m → ¬ Pth (Edg ns) (d + 1) (q t) s
  | d, t, ht, ⟨y, hy, hp⟩ => by
    obtain ⟨hs, u, hu, e⟩ := v.closed t ht y hy
    cases d with
    | zero => exact hs hp
    | succ d => subst e; exact v.exhaust d u hu hp

/-- The state of a walk backward, breadth first, to s: 'ds x': the fewest needs from x to s, -1 for none yet; 'ins y': who needs y. -/
structure Bck (ins : Nat → List Nat) (s n : Nat) (q : Nat → Nat) (m : Nat) (ds : Nat → Int) (i k : Nat) : Prop where
  zero : q 0 = s ∧ ds s = 0
  pos : 0 < m
  lt : ∀ t, t < m → q t < n
  inj : ∀ t t', t < m → t' < m → q t = q t' → t = t'
  inq : ∀ x, x < n → (0 ≤ ds x ↔ ∃ t, t < m ∧ q t = x)
  neg : ∀ x, x < n → ds x < 0 → ds x = -1
  path : ∀ t, t < m → ∃ d : Nat, ds (q t) = (d : Int) ∧ Pth (fun a b => a ∈ ins b) d (q t) s
  mono : ∀ t t', t ≤ t' → t' < m → ds (q t) ≤ ds (q t')
  near : i < m → ∀ t, t < m → ds (q t) ≤ ds (q i) + 1
  closed : ∀ j, j < i → j < m → ∀ x, x ∈ ins (q j) → 0 ≤ ds x ∧ ds x ≤ ds (q j) + 1
  seen : ∀ j, j < k → ∀ x, (ins (q i))[j]? = some x → 0 ≤ ds x ∧ ds x ≤ ds (q i) + 1

section
variable {ins : Nat → List Nat} {s n : Nat} {q : Nat → Nat} {m : Nat} {ds : Nat → Int} {i k : Nat}

theorem Bck.start (ins : Nat → List Nat) {s n : Nat} (hs : s < n) {ds : Nat → Int} (h0 : ds s = 0) (h1 : ∀ x, x < n → x ≠ s → ds x = -1) : Bck ins s n (fun _ => s) 1 ds 0 0 where
  zero := ⟨rfl, h0⟩
  pos := by omega
  lt := fun _ _ => hs
  inj := fun t t' h h' _ => by omega
  inq := fun x hx => by
    by_cases e : x = s
    · subst e; exact ⟨fun _ => ⟨0, by omega, rfl⟩, fun _ => by omega⟩
    · rw [h1 x hx e]; exact ⟨fun h => by omega, fun ⟨_, _, h⟩ => absurd h.symm e⟩
  neg := fun x hx h => by
    by_cases e : x = s
    · subst e; omega
    · exact h1 x hx e
  path := fun t _ => ⟨0, h0, rfl⟩
  mono := fun t t' _ _ => Int.le_refl _
  near := fun _ t _ => by show ds s ≤ ds s + 1; omega
  closed := fun j h => by omega
  seen := fun j h => by omega

theorem Bck.skip (v : Bck ins s n q m ds i k) (hi : i < m) {x : Nat} (hxn : x < n) (hx : (ins (q i))[k]? = some x) (h : 0 ≤ ds x) : Bck ins s n q m ds i (k + 1) :=
  { v with
    seen := fun j hj y hy => by
      by_cases e : j = k
      · subst e; rw [hx] at hy; cases hy
        obtain ⟨t, ht, e⟩ := (v.inq x hxn).1 h
        subst e
        exact ⟨h, v.near hi t ht⟩
      · exact v.seen j (by omega) y hy }

theorem Bck.push (v : Bck ins s n q m ds i k) (hi : i < m) {x : Nat} (hxn : x < n) (hx : (ins (q i))[k]? = some x) (hneg : ds x < 0) {q' : Nat → Nat} {ds' : Nat → Int}
    (e1 : ∀ t, t < m → q' t = q t) (e3 : q' m = x) (e2 : ∀ y, y ≠ x → ds' y = ds y) (e4 : ds' x = ds (q i) + 1) : Bck ins s n q' (m + 1) ds' i (k + 1) := by
  have hnew : ∀ t, t < m → q t ≠ x := fun t ht e => by
    have := (v.inq x hxn).2 ⟨t, ht, e⟩
    omega
  have cas : ∀ t, t < m + 1 → t = m ∨ t < m := fun t h => by omega
  have old : ∀ t, t < m → ds' (q' t) = ds (q t) := fun t ht => by rw [e1 t ht, e2 _ (hnew t ht)]
  have hqi : ds' (q' i) = ds (q i) := old i hi
  have keep : ∀ y, y < n → 0 ≤ ds y → ds' y = ds y := fun y hy h => e2 y (fun e => by subst e; omega)
  obtain ⟨di, hdi, hpi⟩ := v.path i hi
  have insn : ∀ y, 0 ≤ ds y ∧ ds y ≤ ds (q i) + 1 → y ≠ x := fun y h e => by subst e; omega
  refine ⟨⟨by rw [e1 0 v.pos]; exact v.zero.1, ?_⟩, by omega, ?_, ?_, ?_, ?_, ?_, ?_, ?_, ?_, ?_⟩
  · rw [e2 s (fun e => by rw [← e, v.zero.2] at hneg; omega)]; exact v.zero.2
  · intro t ht
    rcases cas t ht with a | a
    · rw [a, e3]; exact hxn
    · rw [e1 t a]; exact v.lt t a
  · intro t t' h h' e
    rcases cas t h with a | a <;> rcases cas t' h' with b | b
    · omega
    · rw [a, e3, e1 t' b] at e; exact absurd e.symm (hnew t' b)
    · rw [b, e3, e1 t a] at e; exact absurd e (hnew t a)
    · rw [e1 t a, e1 t' b] at e; exact v.inj t t' a b e
  · intro y hy
    by_cases e : y = x
    · subst e
      rw [e4]
      exact ⟨fun _ => ⟨m, by omega, e3⟩, fun _ => by omega⟩
    · rw [e2 y e, v.inq y hy]
      constructor
      · rintro ⟨t, ht, e'⟩; exact ⟨t, by omega, by rw [e1 t ht]; exact e'⟩
      · rintro ⟨t, ht, e'⟩
        rcases cas t ht with a | a
        · rw [a, e3] at e'; exact absurd e'.symm e
        · rw [e1 t a] at e'; exact ⟨t, a, e'⟩
  · intro y hy h
    by_cases e : y = x
    · subst e; rw [e4] at h; omega
    · rw [e2 y e] at h ⊢; exact v.neg y hy h
  · intro t ht
    rcases cas t ht with a | a
    · rw [a, e3, e4, hdi]
      exact ⟨di + 1, by omega, q i, List.mem_of_getElem? hx, hpi⟩
    · rw [old t a, e1 t a]; exact v.path t a
  · intro t t' h h'
    rcases cas t' h' with b | b
    · rw [b, e3, e4]
      rcases cas t (by omega) with a | a
      · rw [a, e3, e4]; exact Int.le_refl _
      · rw [old t a]; exact v.near hi t a
    · rw [old t (by omega), old t' b]; exact v.mono t t' h b
  · intro _ t ht
    rw [hqi]
    rcases cas t ht with a | a
    · rw [a, e3, e4]; exact Int.le_refl _
    · rw [old t a]; exact v.near hi t a
  · intro j hj hjm y hy
    have hj' : j < m := by omega
    rw [e1 j hj'] at hy
    have hc := v.closed j hj hj' y hy
    rw [old j hj', e2 y (fun e => by subst e; omega)]
    exact hc
  · intro j hj y hy
    rw [e1 i hi] at hy
    rw [hqi]
    by_cases e : j = k
    · subst e
      rw [hx] at hy; cases hy
      rw [e4]; omega
    · have hc := v.seen j (by omega) y hy
      rw [e2 y (insn y hc)]
      exact hc

theorem Bck.next (v : Bck ins s n q m ds i k) (hi : i < m) (hk : (ins (q i)).length ≤ k) : Bck ins s n q m ds (i + 1) 0 :=
  { v with
    near := fun h t ht => by
      have h1 := v.near hi t ht
      have h2 := v.mono i (i + 1) (by omega) h
      omega
    closed := fun j hj hjm x hx => by
      by_cases e : j = i
      · subst e
        obtain ⟨c, hc⟩ := List.getElem?_of_mem hx
        have : c < (ins (q j)).length := by
          rcases Nat.lt_or_ge c (ins (q j)).length with h | h
          · exact h
          · rw [List.getElem?_eq_none h] at hc; cases hc
        exact v.seen c (by omega) x hc
      · exact v.closed j (by omega) hjm x hx
    seen := fun j h => by omega }

theorem Bck.size (v : Bck ins s n q m ds i k) : m ≤ n := pigeon n m q v.lt v.inj

/-- The distances are found. -/
theorem Bck.done (v : Bck ins s n q m ds m k) (hn : ∀ y x, x ∈ ins y → x < n) : ∀ (d x : Nat), x < n → Pth (fun a b => a ∈ ins b) d x s → 0 ≤ ds x ∧ ds x ≤ (d : Int)
  | 0, x, _, h => by
    have : x = s := h
    subst this
    rw [v.zero.2]; omega
  | d + 1, x, hx, ⟨c, hc, hp⟩ => by
    have hcn : c < n := by
      cases d with
      | zero => have : c = s := hp; subst this; have := v.lt 0 v.pos; rw [v.zero.1] at this; exact this
      | succ d => obtain ⟨e, he, _⟩ := hp; exact hn e c he
    obtain ⟨h1, h2⟩ := v.done hn d c hcn hp
    obtain ⟨t, ht, e⟩ := (v.inq c hcn).1 h1
    subst e
    have := v.closed t ht ht x hc
    omega

/-- What the distances say. -/
def IsDist (E : Nat → Nat → Prop) (s n : Nat) (ds : Nat → Int) : Prop :=
  ∀ x, x < n → (ds x = -1 ∧ ∀ d, ¬ Pth E d x s) ∨ ∃ d : Nat, ds x = (d : Int) ∧ Pth E d x s ∧ ∀ d', d' < d → ¬ Pth E d' x s

theorem Bck.dist (v : Bck ins s n q m ds m k) (hn : ∀ y x, x ∈ ins y → x < n) : IsDist (fun a b => a ∈ ins b) s n ds := by
  intro x hx
  by_cases h : 0 ≤ ds x
  · obtain ⟨t, ht, e⟩ := (v.inq x hx).1 h
    subst e
    obtain ⟨d, hd, hp⟩ := v.path t ht
    refine .inr ⟨d, hd, hp, fun d' hd' hp' => ?_⟩
    have := v.done hn d' _ hx hp'
    omega
  · exact .inl ⟨v.neg x hx (by omega), fun d hp => h (v.done hn d x hx hp).1⟩
end
end Go.Proofs.Qxb6602369a
