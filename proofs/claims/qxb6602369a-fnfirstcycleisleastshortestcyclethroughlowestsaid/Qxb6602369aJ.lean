import Derived.Test.Qxb6602369aH
import Derived.Test.Qxb6602369aT
namespace Go.Proofs.Qxb6602369a

/-! Plain mathematics: what the walks' tests say. -/

theorem edg_congr {xs ys : Nat → List Nat} (h : ∀ a x, x ∈ xs a ↔ x ∈ ys a) : Edg xs = Edg ys := by
  funext a b
  exact propext (h a b)
theorem Cyc.congr {xs ys : Nat → List Nat} {s r : Nat} {c : Nat → Nat} (h : ∀ a x, x ∈ xs a ↔ x ∈ ys a) (v : Cyc xs s r c) : Cyc ys s r c := by
  have e := edg_congr h
  refine ⟨v.zero, ?_, ?_, fun j hj => (h _ _).1 (v.mem j hj), ?_, fun j hj y hy hp => v.least j hj y ((h _ _).2 hy) ?_⟩
  · rw [← e]; exact v.back
  · rw [← e]; exact v.short
  · rw [← e]; exact v.way
  · rw [e]; exact hp
/-- Nobody before s comes back to itself. -/
def NoneTo (ns : Nat → List Nat) (s : Nat) : Prop := ∀ v, v < s → ∀ k, ¬ Pth (Edg ns) (k + 1) v v
theorem NoneTo.congr {xs ys : Nat → List Nat} {s : Nat} (h : ∀ a x, x ∈ xs a ↔ x ∈ ys a) (v : NoneTo xs s) : NoneTo ys s := by
  unfold NoneTo
  rw [← edg_congr h]
  exact v

/-- The row 'from': by whom each was reached. -/
structure Frm (n : Nat) (q : Nat → Nat) (m : Nat) (p : Nat → Nat) (fr : Nat → Int) : Prop where
  val : ∀ t, 1 ≤ t → t < m → fr (q t) = (q (p t) : Nat)
  neg : ∀ x, x < n → (∀ t, 1 ≤ t → t < m → q t ≠ x) → fr x = -1
theorem Frm.start (n : Nat) (q p : Nat → Nat) : Frm n q 1 p (fun _ => -1) := ⟨fun t h h' => by omega, fun _ _ _ => rfl⟩
theorem Frm.met {n : Nat} {q : Nat → Nat} {m : Nat} {p : Nat → Nat} {fr : Nat → Int} (f : Frm n q m p fr) {y : Nat} (hy : y < n) (h : 0 ≤ fr y) : ∃ t, t < m ∧ q t = y := by
  rcases Classical.em (∃ t, t < m ∧ q t = y) with a | a
  · exact a
  · have := f.neg y hy (fun t _ h2 e => a ⟨t, h2, e⟩)
    omega
theorem Frm.new {n : Nat} {q : Nat → Nat} {m : Nat} {p : Nat → Nat} {fr : Nat → Int} (f : Frm n q m p fr) {y : Nat} (h0 : y ≠ q 0) (h : fr y < 0) : ∀ t, t < m → q t ≠ y := by
  intro t ht e
  by_cases h1 : 1 ≤ t
  · have := f.val t h1 ht
    rw [e] at this
    omega
  · obtain rfl : t = 0 := by omega
    exact h0 e.symm
theorem Frm.push {n : Nat} {q : Nat → Nat} {m : Nat} {p : Nat → Nat} {fr : Nat → Int} (f : Frm n q m p fr) {y i : Nat} (hm : 0 < m) (hp : ∀ t, 1 ≤ t → t < m → p t < m) (hnew : ∀ t, t < m → q t ≠ y) {q' p' : Nat → Nat} {fr' : Nat → Int}
    (e1 : ∀ t, t < m → q' t = q t) (e3 : q' m = y) (e2 : ∀ t, t < m → p' t = p t) (e4 : p' m = i) (hi : i < m) (e5 : ∀ x, x ≠ y → fr' x = fr x) (e6 : fr' y = (q i : Nat)) : Frm n q' (m + 1) p' fr' := by
  refine ⟨fun t h h' => ?_, fun x hx h => ?_⟩
  · by_cases e : t = m
    · rw [e, e3, e4, e6, e1 i hi]
    · have ht : t < m := by omega
      rw [e1 t ht, e2 t ht, e5 _ (hnew t ht), e1 _ (hp t h ht)]
      exact f.val t h ht
  · rw [e5 x (fun e => h m (by omega) (by omega) (by rw [e3, e]))]
    exact f.neg x hx (fun t h1 h2 => by rw [← e1 t h2]; exact h t h1 (by omega))

/-- The least distance so far among the first k of l. -/
def Bst (l : List Nat) (ds : Nat → Int) (k : Nat) (b : Int) : Prop :=
  (b = -1 ∧ ∀ j, j < k → ds (l.getD j 0) < 0) ∨ (0 ≤ b ∧ (∃ j, j < k ∧ ds (l.getD j 0) = b) ∧ ∀ j, j < k → 0 ≤ ds (l.getD j 0) → b ≤ ds (l.getD j 0))
theorem Bst.start (l : List Nat) (ds : Nat → Int) : Bst l ds 0 (-1) := .inl ⟨rfl, fun j h => by omega⟩
theorem Bst.ge {l : List Nat} {ds : Nat → Int} {k : Nat} {b : Int} (h : Bst l ds k b) : -1 ≤ b := by
  rcases h with ⟨e, _⟩ | ⟨e, _⟩ <;> omega
theorem Bst.take {l : List Nat} {ds : Nat → Int} {k : Nat} {b d : Int} (h : Bst l ds k b) (hd : ds (l.getD k 0) = d) (h0 : 0 ≤ d) (hb : b < 0 ∨ d < b) : Bst l ds (k + 1) d := by
  refine .inr ⟨h0, ⟨k, by omega, hd⟩, fun j hj hp => ?_⟩
  by_cases e : j = k
  · subst e; omega
  · rcases h with ⟨e1, h1⟩ | ⟨e1, _, h1⟩
    · have := h1 j (by omega); omega
    · have := h1 j (by omega) hp; omega
theorem Bst.pass {l : List Nat} {ds : Nat → Int} {k : Nat} {b d : Int} (h : Bst l ds k b) (hd : ds (l.getD k 0) = d) (hb : d < 0 ∨ (0 ≤ b ∧ b ≤ d)) : Bst l ds (k + 1) b := by
  rcases h with ⟨e1, h1⟩ | ⟨e1, ⟨j0, hj0, e0⟩, h1⟩
  · refine .inl ⟨e1, fun j hj => ?_⟩
    by_cases e : j = k
    · subst e; omega
    · exact h1 j (by omega)
  · refine .inr ⟨e1, ⟨j0, by omega, e0⟩, fun j hj hp => ?_⟩
    by_cases e : j = k
    · subst e; omega
    · exact h1 j (by omega) hp

/-- The least of the first k of l at the distance wanted. -/
def Nxt (l : List Nat) (ds : Nat → Int) (want : Int) (k : Nat) (x : Int) : Prop :=
  (x = -1 ∧ ∀ j, j < k → ds (l.getD j 0) ≠ want) ∨ (∃ m : Nat, x = (m : Nat) ∧ (∃ j, j < k ∧ l.getD j 0 = m) ∧ ds m = want ∧ ∀ j, j < k → ds (l.getD j 0) = want → m ≤ l.getD j 0)
theorem Nxt.start (l : List Nat) (ds : Nat → Int) (want : Int) : Nxt l ds want 0 (-1) := .inl ⟨rfl, fun j h => by omega⟩
theorem Nxt.take {l : List Nat} {ds : Nat → Int} {want x : Int} {k : Nat} (h : Nxt l ds want k x) {m : Nat} (hm : l.getD k 0 = m) (hd : ds m = want) (hb : x < 0 ∨ (m : Int) < x) : Nxt l ds want (k + 1) (m : Nat) := by
  refine .inr ⟨m, rfl, ⟨k, by omega, hm⟩, hd, fun j hj hp => ?_⟩
  by_cases e : j = k
  · subst e; omega
  · rcases h with ⟨e1, h1⟩ | ⟨m0, e1, _, _, h1⟩
    · exact absurd hp (h1 j (by omega))
    · have := h1 j (by omega) hp; omega
theorem Nxt.pass {l : List Nat} {ds : Nat → Int} {want x : Int} {k : Nat} (h : Nxt l ds want k x) {m : Nat} (hm : l.getD k 0 = m) (hb : ds m ≠ want ∨ (0 ≤ x ∧ x ≤ (m : Int))) : Nxt l ds want (k + 1) x := by
  rcases h with ⟨e1, h1⟩ | ⟨m0, e1, ⟨j0, hj0, e0⟩, e2, h1⟩
  · refine .inl ⟨e1, fun j hj => ?_⟩
    by_cases e : j = k
    · subst e; rw [hm]; rcases hb with h | h
      · exact h
      · omega
    · exact h1 j (by omega)
  · refine .inr ⟨m0, e1, ⟨j0, by omega, e0⟩, e2, fun j hj hp => ?_⟩
    by_cases e : j = k
    · subst e; rw [hm] at hp ⊢
      rcases hb with h | h
      · exact absurd hp h
      · omega
    · exact h1 j (by omega) hp

section
variable {ns : Nat → List Nat} {s n : Nat} {ds : Nat → Int}
theorem mem_getD {l : List Nat} {y : Nat} (h : y ∈ l) : ∃ j, j < l.length ∧ l.getD j 0 = y := by
  obtain ⟨j, hj, e⟩ := List.getElem_of_mem h
  exact ⟨j, hj, by rw [List.getD, List.getElem?_eq_getElem hj, ← e]; rfl⟩
theorem getD_mem {l : List Nat} {j : Nat} (h : j < l.length) : l.getD j 0 ∈ l := by
  have : l.getD j 0 = l[j] := by rw [List.getD, List.getElem?_eq_getElem h]; rfl
  rw [this]; exact List.getElem_mem h

/-- No way back: nobody needed reaches s. -/
theorem Bst.none (D : IsDist (Edg ns) s n ds) (hlt : ∀ y, y ∈ ns s → y < n) {b : Int} (h : Bst (ns s) ds (ns s).length b) (hb : b < 0) : ∀ k, ¬ Pth (Edg ns) (k + 1) s s := by
  rintro k ⟨c, hc, hp⟩
  rcases h with ⟨_, h1⟩ | ⟨h0, _⟩
  · obtain ⟨j, hj, e⟩ := mem_getD hc
    have h2 := h1 j hj
    rw [e] at h2
    rcases D c (hlt c hc) with ⟨_, a⟩ | ⟨d, a, _⟩
    · exact a k hp
    · omega
  · omega
/-- There is a way back, and the shortest is as long as the cycle found. -/
theorem Bst.some (D : IsDist (Edg ns) s n ds) (hlt : ∀ y, y ∈ ns s → y < n) {b : Int} (h : Bst (ns s) ds (ns s).length b) (hb : 0 ≤ b) : ∃ k : Nat, b = (k : Nat) ∧ Pth (Edg ns) (k + 1) s s ∧ ∀ d, 1 ≤ d → d ≤ k → ¬ Pth (Edg ns) d s s := by
  rcases h with ⟨h0, _⟩ | ⟨h0, ⟨j, hj, e⟩, h1⟩
  · omega
  · have hy := getD_mem hj
    rcases D _ (hlt _ hy) with ⟨a, _⟩ | ⟨d, a, a2, _⟩
    · omega
    · refine ⟨d, by omega, ⟨_, hy, a2⟩, fun d' h1' h2' hp => ?_⟩
      obtain ⟨k', rfl⟩ : ∃ k', d' = k' + 1 := ⟨d' - 1, by omega⟩
      obtain ⟨c, hc, hp⟩ := hp
      obtain ⟨j', hj', e'⟩ := mem_getD hc
      have h3 := h1 j' hj'
      rw [e'] at h3
      rcases D c (hlt c hc) with ⟨_, b2⟩ | ⟨d2, b1, b2, b3⟩
      · exact b2 k' hp
      · rw [b1] at h3
        have h4 := h3 (by omega)
        exact b3 k' (by omega) hp
theorem Cyc.len {r k : Nat} {c : Nat → Nat} (C : Cyc ns s r c) (h1 : Pth (Edg ns) (k + 1) s s) (h2 : ∀ d, 1 ≤ d → d ≤ k → ¬ Pth (Edg ns) d s s) : k = r := by
  rcases Nat.lt_trichotomy k r with h | h | h
  · exact absurd h1 (C.short (k + 1) (by omega) (by omega))
  · exact h
  · exact absurd C.back (h2 (r + 1) (by omega) (by omega))
/-- The greedy choice is the cycle's own next. -/
theorem Cyc.next {r : Nat} {c : Nat → Nat} (C : Cyc ns s r c) (D : IsDist (Edg ns) s n ds) (hlt : ∀ a y, y ∈ ns a → y < n) {j : Nat} (hj : j < r) {x : Int} (h : Nxt (ns (c j)) ds ((r - j : Nat) : Int) (ns (c j)).length x) : x = (c (j + 1) : Nat) := by
  have hm := C.mem j hj
  obtain ⟨hw, hs⟩ := C.way j hj
  have hd : ds (c (j + 1)) = ((r - j : Nat) : Int) := by
    rcases D _ (hlt _ _ hm) with ⟨_, a⟩ | ⟨d, a1, a2, a3⟩
    · exact absurd hw (a _)
    · rw [a1]
      rcases Nat.lt_trichotomy d (r - j) with h | h | h
      · exact absurd a2 (hs d h)
      · rw [h]
      · exact absurd hw (a3 _ h)
  obtain ⟨i0, hi0, e0⟩ := mem_getD hm
  rcases h with ⟨_, h1⟩ | ⟨m, e1, ⟨j0, hj0, e2⟩, e3, h1⟩
  · exact absurd (by rw [e0]; exact hd) (h1 i0 hi0)
  · have h2 := h1 i0 hi0 (by rw [e0]; exact hd)
    rw [e0] at h2
    have hmm : m ∈ ns (c j) := by rw [← e2]; exact getD_mem hj0
    have hp : Pth (Edg ns) (r - j) m s := by
      rcases D m (hlt _ _ hmm) with ⟨a, _⟩ | ⟨d, a1, a2, _⟩
      · omega
      · rw [show r - j = d by omega]; exact a2
    have h3 := C.least j hj m hmm hp
    omega
end
end Go.Proofs.Qxb6602369a
