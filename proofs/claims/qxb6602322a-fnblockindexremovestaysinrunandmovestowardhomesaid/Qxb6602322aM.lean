import Derived.Test.Qxb6602322aB
namespace Go.Proofs.Qxb6602322a

/-! Plain mathematics of a ring of N places. -/

/-- Steps forward from a to b on a ring of N places. -/
def dst (N a b : Nat) : Nat := if a ≤ b then b - a else b + N - a
/-- The next place. -/
def nxt (N p : Nat) : Nat := if p + 1 = N then 0 else p + 1

theorem dst_or (N a b : Nat) : (a ≤ b ∧ dst N a b = b - a) ∨ (b < a ∧ dst N a b = b + N - a) := by
  unfold dst; split
  · left; constructor <;> first | assumption | rfl
  · right; constructor
    · omega
    · rfl
theorem nxt_or (N p : Nat) : (p + 1 = N ∧ nxt N p = 0) ∨ (p + 1 ≠ N ∧ nxt N p = p + 1) := by
  unfold nxt; split
  · left; constructor <;> first | assumption | rfl
  · right; constructor <;> first | assumption | rfl
theorem nxt_mod {N p : Nat} (h : p < N) : (p + 1) % N = nxt N p := by
  unfold nxt; split
  · next e => rw [e, Nat.mod_self]
  · exact Nat.mod_eq_of_lt (by omega)
theorem nxt_lt {N p : Nat} (h : p < N) : nxt N p < N := by unfold nxt; split <;> omega
theorem dst_lt {N a b : Nat} (ha : a < N) (hb : b < N) : dst N a b < N := by unfold dst; split <;> omega
theorem dst_int {N a b : Nat} (ha : a < N) (hb : b < N) : ((b : Int) - (a : Int)) % (N : Int) = (dst N a b : Int) := by
  unfold dst; split
  · rw [Int.emod_eq_of_lt (by omega) (by omega)]; omega
  · rw [← Int.add_emod_right, Int.emod_eq_of_lt (by omega) (by omega)]; omega
theorem dst_self (N a : Nat) : dst N a a = 0 := by unfold dst; simp
theorem dst_nxt {N a b : Nat} (ha : a < N) (hb : b < N) (h : a ≠ b) : dst N (nxt N a) b + 1 = dst N a b := by
  have h1 := dst_or N a b; have h2 := dst_or N (nxt N a) b; have h3 := nxt_or N a; omega
theorem dst_zero {N a b : Nat} (ha : a < N) (_hb : b < N) (h : dst N a b = 0) : a = b := by
  have h1 := dst_or N a b; omega

/-! The probe. -/
/-- Place p is the first that a probe for id from h meets. -/
def Hit (N : Nat) (I S : Nat → Int) (id : Int) (h p : Nat) : Prop :=
  p < N ∧ S p ≠ 0 ∧ I p = id ∧ ∀ x, x < N → dst N h x < dst N h p → S x ≠ 0 ∧ I x ≠ id

theorem find_of_hit {N : Nat} {I S : Nat → Int} {id : Int} {p : Nat} : ∀ (f q : Nat), q < N → Hit N I S id q p → dst N q p < f → findFrom N I S id f q = (p : Int)
  | 0, _, _, _, hf => absurd hf (Nat.not_lt_zero _)
  | f + 1, q, hq, hh, hf => by
    obtain ⟨hp, hs, hi, hx⟩ := hh
    by_cases e : q = p
    · subst e
      simp [findFrom, hs, hi]
    · have hd := dst_nxt hq hp e
      have hqq := hx q hq (by rw [dst_self]; omega)
      rw [findFrom, if_neg hqq.1, if_neg hqq.2, nxt_mod hq]
      refine find_of_hit f (nxt N q) (nxt_lt hq) ⟨hp, hs, hi, fun x hxN hlt => hx x hxN ?_⟩ (by omega)
      have h1 := dst_or N q x; have h2 := dst_or N (nxt N q) x; have h3 := nxt_or N q; have h4 := dst_or N q p; have h5 := dst_or N (nxt N q) p
      omega

theorem hit_of_find {N : Nat} {I S : Nat → Int} {id : Int} : ∀ (f q : Nat), q < N → f ≤ N → 0 ≤ findFrom N I S id f q → ∃ p : Nat, findFrom N I S id f q = (p : Int) ∧ dst N q p < f ∧ Hit N I S id q p
  | 0, _, _, _, h => by simp [findFrom] at h
  | f + 1, q, hq, hf, h => by
    rw [findFrom] at h ⊢
    by_cases hs : S q = 0
    · rw [if_pos hs] at h; omega
    · rw [if_neg hs] at h ⊢
      by_cases hi : I q = id
      · rw [if_pos hi]
        exact ⟨q, rfl, by rw [dst_self]; omega, hq, hs, hi, fun x _ hx => by rw [dst_self] at hx; omega⟩
      · rw [if_neg hi] at h ⊢
        rw [nxt_mod hq] at h ⊢
        obtain ⟨p, e, hd, hp, hs', hi', hx⟩ := hit_of_find f (nxt N q) (nxt_lt hq) (by omega) h
        have hne : q ≠ p := fun e => hi (e ▸ hi')
        have hd' := dst_nxt hq hp hne
        refine ⟨p, e, by omega, hp, hs', hi', fun x hxN hlt => ?_⟩
        by_cases ex : x = q
        · subst ex; exact ⟨hs, hi⟩
        · refine hx x hxN ?_
          have := dst_nxt hq hxN (fun h => ex h.symm)
          omega

theorem find_neg {N : Nat} {I S : Nat → Int} {id : Int} : ∀ (f q : Nat), findFrom N I S id f q = -1 ∨ 0 ≤ findFrom N I S id f q
  | 0, _ => by simp [findFrom]
  | f + 1, q => by
    rw [findFrom]
    by_cases hs : S q = 0
    · rw [if_pos hs]; left; rfl
    · rw [if_neg hs]
      by_cases hi : I q = id
      · rw [if_pos hi]; right; omega
      · rw [if_neg hi]; exact find_neg f _

theorem find_iff {N : Nat} {I S : Nat → Int} {id : Int} {h p : Nat} (hh : h < N) : findFrom N I S id N h = (p : Int) ↔ Hit N I S id h p := by
  constructor
  · intro e
    obtain ⟨p', e', _, hp⟩ := hit_of_find N h hh (Nat.le_refl _) (by rw [e]; omega)
    have : p' = p := by omega
    exact this ▸ hp
  · intro hp
    exact find_of_hit N h hh hp (dst_lt hh hp.1)

/-! Removal. -/

/-- Every full place is the first that a probe for its id from its home meets. -/
def Good (N : Nat) (hm : Int → Nat) (I S : Nat → Int) : Prop := ∀ k, k < N → S k ≠ 0 → Hit N I S (I k) (hm (I k)) k

/-- What holds of the table while it is turned: g: the gap; i: the place that is looked at next; g0: where id lay. -/
structure Inv (N : Nat) (hm : Int → Nat) (I0 S0 : Nat → Int) (g0 : Nat) (I S : Nat → Int) (g i : Nat) : Prop where
  g_lt : g < N
  i_lt : i < N
  gi : dst N g0 g < dst N g0 i
  pat : ∀ q, q < N → (S q = 0 ↔ S0 q = 0)
  run : ∀ q, q < N → dst N g0 q < dst N g0 i → S0 q ≠ 0
  uniq : ∀ p q, p < N → q < N → p ≠ g → q ≠ g → S p ≠ 0 → S q ≠ 0 → I p = I q → p = q
  path : ∀ p, p < N → p ≠ g → S p ≠ 0 → ∀ q, q < N → dst N (hm (I p)) q < dst N (hm (I p)) p → S q ≠ 0 ∧ (q = g → dst N g0 i ≤ dst N g0 p)
  fwd : ∀ q, q < N → q ≠ g0 → S0 q ≠ 0 → ∃ p, p < N ∧ p ≠ g ∧ I p = I0 q ∧ S p = S0 q
  bwd : ∀ p, p < N → p ≠ g → dst N g0 p < dst N g0 i → ∃ q, q < N ∧ q ≠ g0 ∧ dst N g0 q < dst N g0 i ∧ I p = I0 q ∧ S p = S0 q ∧ dst N (hm (I p)) p ≤ dst N (hm (I p)) q
  rest : ∀ q, q < N → dst N g0 i ≤ dst N g0 q → I q = I0 q ∧ S q = S0 q

def upd (f : Nat → Int) (g : Nat) (v : Int) : Nat → Int := fun j => if j = g then v else f j
theorem upd_at (f : Nat → Int) (g : Nat) (v : Int) : upd f g v g = v := by simp [upd]
theorem upd_off {f : Nat → Int} {g j : Nat} (v : Int) (h : j ≠ g) : upd f g v j = f j := by simp [upd, h]

variable {N : Nat} {hm : Int → Nat} {I0 S0 : Nat → Int} {g0 : Nat} {I S : Nat → Int} {g i : Nat}

theorem Good.uniq (h : Good N hm I0 S0) (hhm : ∀ x, hm x < N) {p q : Nat} (hp : p < N) (hq : q < N) (sp : S0 p ≠ 0) (sq : S0 q ≠ 0) (e : I0 p = I0 q) : p = q := by
  have h1 := (find_iff (hhm _)).2 (h p hp sp)
  have h2 := (find_iff (hhm _)).2 (h q hq sq)
  rw [← e] at h2
  omega

/-- There is an empty place. -/
theorem inv_start (hg : Good N hm I0 S0) (hhm : ∀ x, hm x < N) (hg0 : g0 < N) (hs : S0 g0 ≠ 0) {e : Nat} (he : e < N) (hse : S0 e = 0) : Inv N hm I0 S0 g0 I0 S0 g0 (nxt N g0) := by
  have hne : g0 ≠ e := fun x => hs (x ▸ hse)
  have h1 : dst N g0 (nxt N g0) = 1 := by
    have a := dst_or N g0 (nxt N g0); have b := nxt_or N g0; omega
  refine ⟨hg0, nxt_lt hg0, by rw [dst_self, h1]; omega, fun _ _ => Iff.rfl, ?_, ?_, ?_, ?_, ?_, fun _ _ _ => ⟨rfl, rfl⟩⟩
  · intro q hq hlt
    rw [h1] at hlt
    have := dst_zero hg0 hq (by omega)
    exact this ▸ hs
  · intro p q hp hq _ _ sp sq e
    exact hg.uniq hhm hp hq sp sq e
  · intro p hp hpg sp q hq hlt
    refine ⟨((hg p hp sp).2.2.2 q hq hlt).1, fun _ => ?_⟩
    rw [h1]
    have := dst_or N g0 p
    omega
  · intro q hq hqg sq
    exact ⟨q, hq, hqg, rfl, rfl⟩
  · intro p hp hpg hlt
    rw [h1] at hlt
    exact absurd (dst_zero hg0 hp (by omega)).symm hpg

/-- The entry at i stays. -/
theorem inv_stay (v : Inv N hm I0 S0 g0 I S g i) (hhm : ∀ x, hm x < N) (hg0 : g0 < N) {e : Nat} (he : e < N) (hse : S0 e = 0) (hsi : S i ≠ 0)
    (hc : dst N (hm (I i)) i < dst N g i) : Inv N hm I0 S0 g0 I S g (nxt N i) := by
  have hgl := v.g_lt; have hil := v.i_lt; have hgi := v.gi
  have hei : dst N g0 i < dst N g0 e := by
    rcases Nat.lt_trichotomy (dst N g0 i) (dst N g0 e) with h | h | h
    · exact h
    · have : i = e := by have a := dst_or N g0 i; have b := dst_or N g0 e; omega
      exact absurd ((v.pat e he).2 hse) (this ▸ hsi)
    · exact absurd hse (v.run e he h)
  have hd : dst N g0 (nxt N i) = dst N g0 i + 1 := by
    have a := dst_or N g0 i; have b := dst_or N g0 e; have c := dst_or N g0 (nxt N i); have d := nxt_or N i; omega
  have heq : ∀ q, q < N → dst N g0 q < dst N g0 (nxt N i) → q = i ∨ dst N g0 q < dst N g0 i := by
    intro q hq hlt
    have a := dst_or N g0 i; have b := dst_or N g0 q; omega
  refine ⟨hgl, nxt_lt hil, by omega, v.pat, ?_, v.uniq, ?_, v.fwd, ?_, fun q hq h => v.rest q hq (by omega)⟩
  · intro q hq hlt
    rcases heq q hq hlt with rfl | h
    · exact fun h => hsi ((v.pat _ hq).2 h)
    · exact v.run q hq h
  · intro p hp hpg sp q hq hlt
    obtain ⟨h1, h2⟩ := v.path p hp hpg sp q hq hlt
    refine ⟨h1, fun hqg => ?_⟩
    have h3 := h2 hqg
    rw [hd]
    rcases Nat.lt_or_ge (dst N g0 i) (dst N g0 p) with h | h
    · omega
    · exfalso
      have : p = i := by have a := dst_or N g0 i; have b := dst_or N g0 p; omega
      subst this
      subst hqg
      have h4 := hhm (I p)
      have a := dst_or N (hm (I p)) p; have b := dst_or N (hm (I p)) q; have c := dst_or N q p
      omega
  · intro p hp hpg hlt
    rcases heq p hp hlt with rfl | h
    · obtain ⟨h1, h2⟩ := v.rest p hp (Nat.le_refl _)
      exact ⟨p, hp, fun x => by rw [x, dst_self] at hgi; omega, hlt, h1, h2, Nat.le_refl _⟩
    · obtain ⟨q, a, b, c, d⟩ := v.bwd p hp hpg h
      exact ⟨q, a, b, by omega, d⟩

/-- The entry at i moves into the gap. -/
theorem inv_move (v : Inv N hm I0 S0 g0 I S g i) (hhm : ∀ x, hm x < N) (hg0 : g0 < N) {e : Nat} (he : e < N) (hse : S0 e = 0) (hsi : S i ≠ 0)
    (hc : dst N g i ≤ dst N (hm (I i)) i) : Inv N hm I0 S0 g0 (upd I g (I i)) (upd S g (S i)) i (nxt N i) := by
  have hgl := v.g_lt; have hil := v.i_lt; have hgi := v.gi
  have hei : dst N g0 i < dst N g0 e := by
    rcases Nat.lt_trichotomy (dst N g0 i) (dst N g0 e) with h | h | h
    · exact h
    · have : i = e := by have a := dst_or N g0 i; have b := dst_or N g0 e; omega
      exact absurd ((v.pat e he).2 hse) (this ▸ hsi)
    · exact absurd hse (v.run e he h)
  have hd : dst N g0 (nxt N i) = dst N g0 i + 1 := by
    have a := dst_or N g0 i; have b := dst_or N g0 e; have c := dst_or N g0 (nxt N i); have d := nxt_or N i; omega
  have heq : ∀ q, q < N → dst N g0 q < dst N g0 (nxt N i) → q = i ∨ dst N g0 q < dst N g0 i := by
    intro q hq hlt
    have a := dst_or N g0 i; have b := dst_or N g0 q; omega
  have hne : i ≠ g := fun x => by rw [x] at hgi; omega
  have hsg : S g ≠ 0 := fun h => v.run g hgl hgi ((v.pat g hgl).1 h)
  have hse' : S e = 0 := (v.pat e he).2 hse
  have hpat : ∀ q, q < N → (upd S g (S i) q = 0 ↔ S q = 0) := by
    intro q hq
    by_cases x : q = g
    · subst x; rw [upd_at]; simp [hsi, hsg]
    · rw [upd_off _ x]
  refine ⟨hil, nxt_lt hil, by omega, fun q hq => (hpat q hq).trans (v.pat q hq), ?_, ?_, ?_, ?_, ?_, ?_⟩
  · intro q hq hlt
    rcases heq q hq hlt with rfl | h
    · exact fun h => hsi ((v.pat _ hq).2 h)
    · exact v.run q hq h
  · intro p q hp hq hpi hqi sp sq e
    by_cases x : p = g <;> by_cases y : q = g
    · rw [x, y]
    · subst x
      rw [upd_at, upd_off _ y] at e
      rw [upd_off _ y] at sq
      exact absurd (v.uniq i q hil hq hne y hsi sq e).symm hqi
    · subst y
      rw [upd_at, upd_off _ x] at e
      rw [upd_off _ x] at sp
      exact absurd (v.uniq i p hil hp hne x hsi sp e.symm).symm hpi
    · rw [upd_off _ x, upd_off _ y] at e
      rw [upd_off _ x] at sp
      rw [upd_off _ y] at sq
      exact v.uniq p q hp hq x y sp sq e
  · intro p hp hpi sp q hq hlt
    rw [Ne, hpat q hq]
    by_cases x : p = g
    · subst x
      rw [upd_at] at hlt
      have h4 := hhm (I i)
      have a := dst_or N (hm (I i)) i; have b := dst_or N (hm (I i)) p; have c := dst_or N p i
      refine ⟨(v.path i hil hne hsi q hq (by omega)).1, fun y => ?_⟩
      subst y
      exfalso
      omega
    · rw [upd_off _ x] at hlt sp
      obtain ⟨h1, h2⟩ := v.path p hp x sp q hq hlt
      refine ⟨h1, fun y => ?_⟩
      subst y
      rw [hd]
      rcases Nat.lt_or_ge (dst N g0 q) (dst N g0 p) with h | h
      · omega
      · exfalso
        have h4 := hhm (I p)
        refine (v.path p hp x sp e he ?_).1 hse'
        have a := dst_or N (hm (I p)) p; have b := dst_or N (hm (I p)) q; have c := dst_or N (hm (I p)) e
        have a' := dst_or N g0 p; have b' := dst_or N g0 q; have c' := dst_or N g0 e
        omega
  · intro q hq hqg sq
    obtain ⟨p, hp, hpg, h1, h2⟩ := v.fwd q hq hqg sq
    by_cases x : p = i
    · subst x
      exact ⟨g, hgl, fun y => hne y.symm, by rw [upd_at]; exact h1, by rw [upd_at]; exact h2⟩
    · exact ⟨p, hp, x, by rw [upd_off _ hpg]; exact h1, by rw [upd_off _ hpg]; exact h2⟩
  · intro p hp hpi hlt
    by_cases x : p = g
    · subst x
      obtain ⟨h1, h2⟩ := v.rest i hil (Nat.le_refl _)
      have h4 := hhm (I i)
      refine ⟨i, hil, fun y => by rw [y, dst_self] at hgi; omega, by omega, by rw [upd_at]; exact h1, by rw [upd_at]; exact h2, ?_⟩
      rw [upd_at]
      have a := dst_or N (hm (I i)) i; have b := dst_or N (hm (I i)) p; have c := dst_or N p i
      omega
    · rcases heq p hp hlt with rfl | h
      · exact absurd rfl hpi
      · obtain ⟨q, a, b, c, d⟩ := v.bwd p hp x h
        rw [upd_off _ x, upd_off _ x]
        exact ⟨q, a, b, by omega, d⟩
  · intro q hq h
    have x : q ≠ g := fun x => by rw [x, hd] at h; omega
    rw [upd_off _ x, upd_off _ x]
    exact v.rest q hq (by omega)

/-! What is left at the end: (R, RS) is the table with the gap emptied. -/
structure Done (N : Nat) (hm : Int → Nat) (I0 S0 : Nat → Int) (g0 : Nat) (R RS : Nat → Int) (g e : Nat) : Prop where
  g_lt : g < N
  e_lt : e < N
  ge : dst N g0 g < dst N g0 e
  good : Good N hm R RS
  emp : S0 e = 0
  run : ∀ q, q < N → dst N g0 q < dst N g0 e → S0 q ≠ 0
  pat : ∀ q, q < N → q ≠ g → (RS q = 0 ↔ S0 q = 0)
  gap : R g = 0 ∧ RS g = 0
  fwd : ∀ q, q < N → q ≠ g0 → S0 q ≠ 0 → ∃ p, p < N ∧ RS p ≠ 0 ∧ R p = I0 q ∧ RS p = S0 q
  bwd : ∀ p, p < N → p ≠ g → dst N g0 p < dst N g0 e → ∃ q, q < N ∧ q ≠ g0 ∧ dst N g0 q < dst N g0 e ∧ R p = I0 q ∧ RS p = S0 q ∧ dst N (hm (R p)) p ≤ dst N (hm (R p)) q
  rest : ∀ q, q < N → dst N g0 e ≤ dst N g0 q → R q = I0 q ∧ RS q = S0 q

theorem inv_end (v : Inv N hm I0 S0 g0 I S g i) (hhm : ∀ x, hm x < N) (hg0 : g0 < N) (hsi : S i = 0) : Done N hm I0 S0 g0 (upd I g 0) (upd S g 0) g i := by
  have hgl := v.g_lt; have hil := v.i_lt; have hgi := v.gi
  refine ⟨hgl, hil, hgi, ?_, (v.pat i hil).1 hsi, v.run, ?_, ⟨upd_at _ _ _, upd_at _ _ _⟩, ?_, ?_, ?_⟩
  · intro k hk sk
    have hkg : k ≠ g := fun x => sk (by rw [x, upd_at])
    rw [upd_off _ hkg] at sk ⊢
    refine ⟨hk, by rw [upd_off _ hkg]; exact sk, upd_off _ hkg, fun x hx hlt => ?_⟩
    obtain ⟨h1, h2⟩ := v.path k hk hkg sk x hx hlt
    have hxg : x ≠ g := by
      intro y
      have h3 := h2 y
      subst y
      have hki : k ≠ i := fun z => sk (z ▸ hsi)
      have h4 := hhm (I k)
      refine (v.path k hk hkg sk i hil ?_).1 hsi
      have a := dst_or N (hm (I k)) k; have b := dst_or N (hm (I k)) x; have c := dst_or N (hm (I k)) i
      have a' := dst_or N g0 k; have b' := dst_or N g0 x; have c' := dst_or N g0 i
      omega
    rw [upd_off _ hxg, upd_off _ hxg]
    refine ⟨h1, fun y => ?_⟩
    have := v.uniq x k hx hk hxg hkg h1 sk y
    subst this
    omega
  · intro q hq hqg
    rw [upd_off _ hqg]
    exact v.pat q hq
  · intro q hq hqg sq
    obtain ⟨p, hp, hpg, h1, h2⟩ := v.fwd q hq hqg sq
    exact ⟨p, hp, by rw [upd_off _ hpg, h2]; exact sq, by rw [upd_off _ hpg]; exact h1, by rw [upd_off _ hpg]; exact h2⟩
  · intro p hp hpg hlt
    rw [upd_off _ hpg, upd_off _ hpg]
    exact v.bwd p hp hpg hlt
  · intro q hq h
    have x : q ≠ g := fun x => by rw [x] at h; omega
    rw [upd_off _ x, upd_off _ x]
    exact v.rest q hq h

/-- How many of the first k entries are full. -/
def cntFull (S : Nat → Int) : Nat → Nat
  | 0 => 0
  | k + 1 => cntFull S k + (if S k = 0 then 0 else 1)
theorem cntFull_le (S : Nat → Int) (k : Nat) : cntFull S k ≤ k := by
  induction k with
  | zero => simp [cntFull]
  | succ k ih => simp only [cntFull]; split <;> omega
theorem cnt_all (S : Nat → Int) : ∀ k, (∀ e, e < k → S e ≠ 0) → cntFull S k = k
  | 0, _ => rfl
  | k + 1, h => by
    have := cnt_all S k (fun e he => h e (by omega))
    simp [cntFull, this, h k (by omega)]
theorem cnt_empty {S : Nat → Int} {k : Nat} (h : cntFull S k ≠ k) : ∃ e, e < k ∧ S e = 0 :=
  Classical.byContradiction fun hn => h (cnt_all S k fun e he hs => hn ⟨e, he, hs⟩)
theorem cnt_congr {S T : Nat → Int} : ∀ k, (∀ q, q < k → (S q = 0 ↔ T q = 0)) → cntFull S k = cntFull T k
  | 0, _ => rfl
  | k + 1, h => by
    have h1 := cnt_congr k (fun q hq => h q (by omega))
    have h2 := h k (by omega)
    by_cases hs : S k = 0
    · simp [cntFull, h1, hs, h2.1 hs]
    · have ht : ¬ T k = 0 := fun x => hs (h2.2 x)
      simp [cntFull, h1, hs, ht]
theorem cnt_gap {S T : Nat → Int} {g : Nat} (hs : S g ≠ 0) (ht : T g = 0) : ∀ k, g < k → (∀ q, q < k → q ≠ g → (T q = 0 ↔ S q = 0)) → cntFull T k + 1 = cntFull S k
  | 0, h, _ => absurd h (Nat.not_lt_zero _)
  | k + 1, h, hq => by
    by_cases e : k = g
    · subst e
      have := cnt_congr (S := T) (T := S) k (fun q h' => hq q (by omega) (by omega))
      simp [cntFull, this, hs, ht]
    · have h1 := cnt_gap hs ht k (by omega) (fun q h' => hq q (by omega))
      have h2 := hq k (by omega) e
      by_cases hk : T k = 0
      · simp [cntFull, hk, h2.1 hk]; omega
      · have hs' : ¬ S k = 0 := fun x => hk (h2.2 x)
        simp [cntFull, hk, hs']; omega

variable {R RS : Nat → Int} {e : Nat}
theorem Done.cnt (d : Done N hm I0 S0 g0 R RS g e) : cntFull RS N + 1 = cntFull S0 N :=
  cnt_gap (d.run g d.g_lt d.ge) d.gap.2 N d.g_lt d.pat

/-- id is not found any more. -/
theorem Done.gone (d : Done N hm I0 S0 g0 R RS g e) (hg : Good N hm I0 S0) (hhm : ∀ x, hm x < N) (hg0 : g0 < N) (hs0 : S0 g0 ≠ 0) : findFrom N R RS (I0 g0) N (hm (I0 g0)) = -1 := by
  rcases find_neg (N := N) (I := R) (S := RS) (id := I0 g0) N (hm (I0 g0)) with h | h
  · exact h
  · exfalso
    obtain ⟨p, _, _, hp, sp, ip, _⟩ := hit_of_find N _ (hhm _) (Nat.le_refl _) h
    have hpg : p ≠ g := fun x => sp (by rw [x]; exact d.gap.2)
    rcases Nat.lt_or_ge (dst N g0 p) (dst N g0 e) with hlt | hge
    · obtain ⟨q, hq, hqg, hqe, e1, _, _⟩ := d.bwd p hp hpg hlt
      exact hqg (hg.uniq hhm hq hg0 (d.run q hq hqe) hs0 (e1.symm.trans ip))
    · obtain ⟨e1, e2⟩ := d.rest p hp hge
      have := hg.uniq hhm hp hg0 (by rw [← e2]; exact sp) hs0 (e1.symm.trans ip)
      subst this
      rw [dst_self] at hge
      have := d.ge
      omega

/-- Every other id is found, with its slot. -/
theorem Done.found (d : Done N hm I0 S0 g0 R RS g e) (hhm : ∀ x, hm x < N) {q : Nat} (hq : q < N) (hqg : q ≠ g0) (sq : S0 q ≠ 0) : ∃ p : Nat, p < N ∧ findFrom N R RS (I0 q) N (hm (I0 q)) = (p : Int) ∧ RS p = S0 q := by
  obtain ⟨p, hp, sp, h1, h2⟩ := d.fwd q hq hqg sq
  have := (find_iff (hhm _)).2 (d.good p hp sp)
  rw [h1] at this
  exact ⟨p, hp, this, h2⟩

end Go.Proofs.Qxb6602322a
