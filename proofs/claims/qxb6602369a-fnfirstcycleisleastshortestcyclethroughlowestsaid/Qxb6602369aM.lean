import Derived.Test.Qxb6602369aN
import Derived.Test.Qxb6602369aK
namespace Go.Proofs.Qxb6602369a
open Go.RowKit

/-- The cycle found, as the law reads it. -/
def GotP (ga : Option Addr) (gl gc lo n : Nat) (w : World) (ns : Nat → List Nat) : Prop :=
  (ga = none ∧ gl = 0 ∧ gc = 0 ∧ NoneTo ns n) ∨ ∃ s r c g, s < n ∧ r + 1 ≤ n ∧ ga = some ⟨g, 0, none⟩ ∧ gl = r + 1 ∧ lo ≤ g ∧ g < w.heap.size ∧ (∀ j, j ≤ r → w.cell? ⟨g, j, none⟩ = some (.int .i64 (c j : Nat))) ∧ Cyc ns s r c ∧ NoneTo ns s
theorem RetFC.val {e : Ending} {lo n : Nat} {w : World} {ns : Nat → List Nat} (h : RetFC e lo n w ns) : ∃ ga gl gc, e = .returned (.slice ga gl gc) ∧ GotP ga gl gc lo n w ns := by
  rcases h with ⟨rfl, h⟩ | ⟨s, r, c, g, cap, h1, h2, rfl, h3⟩
  · exact ⟨_, _, _, rfl, .inl ⟨rfl, rfl, rfl, h⟩⟩
  · exact ⟨_, _, _, rfl, .inr ⟨s, r, c, g, h1, h2, rfl, rfl, h3⟩⟩
theorem GotP.keep {ga : Option Addr} {gl gc lo n : Nat} {w w' : World} {ns : Nat → List Nat} (h : GotP ga gl gc lo n w ns) (k : Kp lo w w') : GotP ga gl gc lo n w' ns := by
  rcases h with h | ⟨s, r, c, g, h1, h2, h3, h4, h5, h6, h7, h8⟩
  · exact .inl h
  · exact .inr ⟨s, r, c, g, h1, h2, h3, h4, h5, Nat.lt_of_lt_of_le h6 k.size, fun j hj => (k.cell (p := ⟨g, j, none⟩) h5 h6).trans (h7 j hj), h8⟩
/-- s is the least that comes back to itself: so it is the cycle's. -/
theorem GotP.at {ga : Option Addr} {gl gc lo n s k : Nat} {w : World} {ns : Nat → List Nat} (h : GotP ga gl gc lo n w ns) (hs : s < n) (hN : NoneTo ns s) (h1 : Pth (Edg ns) (k + 1) s s) (h2 : ∀ d, 1 ≤ d → d ≤ k → ¬ Pth (Edg ns) d s s) :
    ∃ c g, k + 1 ≤ n ∧ ga = some ⟨g, 0, none⟩ ∧ gl = k + 1 ∧ g < w.heap.size ∧ (∀ j, j ≤ k → w.cell? ⟨g, j, none⟩ = some (.int .i64 (c j : Nat))) ∧ Cyc ns s k c := by
  rcases h with ⟨_, _, _, h⟩ | ⟨s', r, c, g, g1, g2, rfl, rfl, _, g6, g7, g8, g9⟩
  · exact absurd h1 (h s hs k)
  · have e : s' = s := by
      rcases Nat.lt_trichotomy s' s with h | h | h
      · exact absurd g8.back (hN s' h r)
      · exact h
      · exact absurd h1 (g9 s h k)
    subst e
    have e2 := g8.len h1 h2
    subst e2
    exact ⟨c, g, g2, rfl, rfl, g6, g7, g8⟩
/-- Nobody comes back: nothing was found. -/
theorem GotP.nil {ga : Option Addr} {gl gc lo n : Nat} {w : World} {ns : Nat → List Nat} (h : GotP ga gl gc lo n w ns) (hN : NoneTo ns n) : ga = none ∧ gl = 0 ∧ gc = 0 := by
  rcases h with ⟨h1, h2, h3, _⟩ | ⟨s', r, c, g, g1, g2, rfl, rfl, _, g6, g7, g8, g9⟩
  · exact ⟨h1, h2, h3⟩
  · exact absurd g8.back (hN s' g1 r)

theorem ownsRow_base {w : World} {base base2 e size n : Nat} {v : Value} {xs : List Value} (h : w.ownsRow base e size v n xs) (hb : ∀ g, v.ownBlock = some g → base2 ≤ g) : w.ownsRow base2 e size v n xs := by
  refine ⟨h.1, ?_⟩
  rcases h.2 with h' | ⟨g', cap', cur, h', h2, h3⟩
  · exact .inl h'
  · exact .inr ⟨g', cap', cur, h', hb g' (by rw [h']; rfl), h3⟩
theorem RdG.congr {lo n : Nat} {w : World} {a : Option Addr} {xs ys : Nat → List Nat} (h : RdG lo w a n xs) (he : ∀ i, i < n → xs i = ys i) : RdG lo w a n ys := by
  rcases h with h | ⟨b, o, ea, h1, h2, h3⟩
  · exact .inl h
  · refine .inr ⟨b, o, ea, h1, h2, fun i hi => ?_⟩
    rw [← he i hi]; exact h3 i hi

/-- What is left of a call that appends to one of the rows 'out'. -/
def RetNT (e : Ending) (B n : Nat) (w0 w' : World) (vs : Nat → Value) (xs : Nat → List Nat) (k : Nat) (ys : List Nat) : Prop :=
  ∃ a c, e = .returned (.slice a ys.length c) ∧ NT B n w0 (w'.setCell ⟨B, k, none⟩ (.slice a ys.length c)) (upd vs k (.slice a ys.length c)) (upd xs k ys) ∧ w'.rowIs B 28 n vs
theorem refs_nt {lo c n k : Nat} {a : Option Addr} {l : List (Int × Int)} {w0 w : World} {vs : Nat → Value} {xs : Nat → List Nat} {v : Value} (h : NT w0.heap.size n w0 w vs xs) (hk : k < n) (hv : vs k = v) (h0 : RdR lo w0 (.slice a l.length c) l)
    (hp : ∀ i, i < l.length → 0 ≤ (l.getD i (0, 0)).1) (hl : (xs k).length + l.length ≤ 100000000) :
    Calls Try.prog 20 #[v, .slice a l.length c] w fun e w' => RetNT e w0.heap.size n w0 w' vs xs k (xs k ++ refN l) := by
  subst hv
  have ho := h.own k (by omega)
  have hlt := ho.lt
  have hsz := h.size
  refine (appendRefNodes_any lo c a l (xs k) (vs k) w0 w h0 h.bel (ownsRow_base ho (fun g hg => by have := (hlt g hg).1; omega)) hp hl).mono ?_
  rintro e w' ⟨v', rfl, ho', hg⟩
  have hb : w'.ownsRow (w0.heap.size + 2) 3 1 v' (xs k ++ refN l).length (natL (xs k ++ refN l)) := ownsRow_base ho' (fun g hg' => by
    rcases hg.blk with e | ⟨k', e, hk'⟩
    · rw [e] at hg'; exact (hlt g hg').1
    · rw [e] at hg'; have : k' = g := Option.some.inj hg'; omega)
  obtain ⟨a', c', rfl⟩ := ownsRow_form hb
  exact ⟨a', c', rfl, h.grew1 hk hg hb, (h.rows (by omega) rfl hg).1⟩

/-- Between two nodes: the rows of those before k are laid. -/
structure LR (G : List NodeD) (w0 wr : World) (k : Nat) (vs : Nat → Value) (xs : Nat → List Nat) : Prop where
  nt : NT w0.heap.size G.length w0 wr vs xs
  done : ∀ i, i < k → xs i = adj G i
  nil : ∀ i, k ≤ i → i < G.length → xs i = []
  ins : ∀ b x, x ∈ xs (G.length + b) ↔ x < k ∧ b ∈ adj G x
  len : ∀ b, (xs (G.length + b)).length ≤ k * 100000
/-- Of the k-th the row 'out' is laid, and the first e of it are entered. -/
structure LK (G : List NodeD) (w0 wr : World) (k e : Nat) (vs : Nat → Value) (xs : Nat → List Nat) : Prop where
  nt : NT w0.heap.size G.length w0 wr vs xs
  done : ∀ i, i < k + 1 → xs i = adj G i
  nil : ∀ i, k + 1 ≤ i → i < G.length → xs i = []
  ins : ∀ b x, x ∈ xs (G.length + b) ↔ (x < k ∧ b ∈ adj G x) ∨ (x = k ∧ b ∈ (adj G k).take e)
  len : ∀ b, (xs (G.length + b)).length ≤ k * 100000 + e

section
variable {G : List NodeD} {w0 wr : World} {k e : Nat} {vs : Nat → Value} {xs : Nat → List Nat}
theorem LR.start (G : List NodeD) (w : World) : LR G w ((w.alloc (.cells (madeCells #[.slice none 0 0] G.length) 28)).alloc (.cells (madeCells #[.slice none 0 0] G.length) 28)) 0 (fun _ => .slice none 0 0) (fun _ => []) where
  nt := NT.init w G.length
  done := fun i h => by omega
  nil := fun _ _ _ => rfl
  ins := fun b x => ⟨fun h => by simp at h, fun h => by omega⟩
  len := fun b => by simp
theorem LR.laid {w' : World} {v' : Value} (h : LR G w0 wr k vs xs) (hk : k < G.length) (hn : NT w0.heap.size G.length w0 w' (upd vs k v') (upd xs k (adj G k))) : LK G w0 w' k 0 (upd vs k v') (upd xs k (adj G k)) where
  nt := hn
  done := fun i hi => by
    by_cases e : i = k
    · rw [e, upd_same]
    · rw [upd_other _ _ _ e]; exact h.done i (by omega)
  nil := fun i h1 h2 => by rw [upd_other _ _ _ (by omega)]; exact h.nil i (by omega) h2
  ins := fun b x => by
    rw [upd_other _ _ _ (by omega), h.ins b x]
    simp
  len := fun b => by rw [upd_other _ _ _ (by omega), Nat.add_zero]; exact h.len b
theorem LK.step {w' : World} {v' : Value} {b : Nat} (h : LK G w0 wr k e vs xs) (hk : k < G.length) (hb : (adj G k)[e]? = some b)
    (hn : NT w0.heap.size G.length w0 w' (upd vs (G.length + b) v') (upd xs (G.length + b) (xs (G.length + b) ++ [k]))) : LK G w0 w' k (e + 1) (upd vs (G.length + b) v') (upd xs (G.length + b) (xs (G.length + b) ++ [k])) where
  nt := hn
  done := fun i hi => by rw [upd_other _ _ _ (by omega)]; exact h.done i hi
  nil := fun i h1 h2 => by rw [upd_other _ _ _ (by omega)]; exact h.nil i h1 h2
  ins := fun b' x => by
    have ht : ∀ z, z ∈ (adj G k).take (e + 1) ↔ z ∈ (adj G k).take e ∨ z = b := fun z => by rw [List.take_add_one, hb]; simp
    rw [ht b']
    by_cases e1 : b' = b
    · subst e1
      rw [upd_same, List.mem_append, h.ins b' x]
      simp
      constructor
      · rintro ((a | a) | a)
        · exact .inl a
        · exact .inr a.1
        · exact .inr a
      · rintro (a | a)
        · exact .inl (.inl a)
        · exact .inr a
    · rw [upd_other _ _ _ (by omega), h.ins b' x]
      simp [e1]
  len := fun b' => by
    by_cases e1 : b' = b
    · subst e1
      rw [upd_same, List.length_append]
      have := h.len b'
      simp
      omega
    · rw [upd_other _ _ _ (by omega)]
      have := h.len b'
      omega
theorem LK.next (h : LK G w0 wr k e vs xs) (he : (adj G k).length ≤ e) (hl : e ≤ 100000) : LR G w0 wr (k + 1) vs xs where
  nt := h.nt
  done := h.done
  nil := h.nil
  ins := fun b x => by
    rw [h.ins b x, List.take_of_length_le he]
    constructor
    · rintro (⟨a, b⟩ | ⟨a, b⟩)
      · exact ⟨by omega, b⟩
      · subst a; exact ⟨by omega, b⟩
    · rintro ⟨a, b⟩
      by_cases e1 : x = k
      · subst e1; exact .inr ⟨rfl, b⟩
      · exact .inl ⟨by omega, b⟩
  len := fun b => by have := h.len b; omega
end

/-- The walk backward to s, in memory: the row 'dist' at block D, the queue behind it. -/
structure BS (n : Nat) (w3 wr : World) (ins : Nat → List Nat) (s : Nat) (v : Value) (q : Nat → Nat) (m i k : Nat) (ds : Nat → Int) : Prop where
  bel : Below w3.heap.size w3 wr
  row : wr.rowIs w3.heap.size 3 n (fun x => .int .i64 (ds x))
  que : Que wr (w3.heap.size + 1) v m q
  bck : Bck ins s n q m ds i k
  bnd : ∀ x, -1 ≤ ds x ∧ ds x ≤ (m : Int)

section
variable {n : Nat} {w3 wr : World} {ins : Nat → List Nat} {s : Nat} {v : Value} {q : Nat → Nat} {m i k : Nat} {ds : Nat → Int}
theorem BS.size (S : BS n w3 wr ins s v q m i k ds) : w3.heap.size + 1 ≤ wr.heap.size := S.row.lt
theorem BS.start {w4 : World} (hs : s < n) (hb : Below w3.heap.size w3 w4) (hr : w4.rowIs w3.heap.size 3 n (fun _ => .int .i64 (-1))) :
    BS n w3 ((w4.setCell ⟨w3.heap.size, s, none⟩ (.int .i64 0)).alloc (.cells #[.int .i64 (s : Nat)] 3)) ins s (.slice (some ⟨w4.heap.size, 0, none⟩) 1 1) (fun _ => s) 1 0 0 (upd (fun _ => -1) s 0) where
  bel := (hb.setCell (by simp) _).alloc (by have := hr.lt; simp; omega) _
  row := ((hr.set s (.int .i64 0)).congr (fun j _ => by show (if j = s then Value.int .i64 0 else Value.int .i64 (-1)) = Value.int .i64 (upd (fun _ => -1) s 0 j); unfold upd; split <;> rfl)).alloc _
  que := by
    have h := Que.one (w4.setCell ⟨w3.heap.size, s, none⟩ (.int .i64 0)) s
    rw [Deep.nblk_setCell] at h
    exact h.mono hr.lt
  bck := Bck.start ins hs (upd_same _ _ _) (fun x _ hx => upd_other _ _ _ hx)
  bnd := fun x => by
    show -1 ≤ (if x = s then (0 : Int) else -1) ∧ (if x = s then (0 : Int) else -1) ≤ ((1 : Nat) : Int)
    split <;> omega
theorem BS.skip (S : BS n w3 wr ins s v q m i k ds) (hi : i < m) {x : Nat} (hxn : x < n) (hx : (ins (q i))[k]? = some x) (h : 0 ≤ ds x) : BS n w3 wr ins s v q m i (k + 1) ds :=
  { S with bck := S.bck.skip hi hxn hx h }
theorem BS.push (S : BS n w3 wr ins s v q m i k ds) (hi : i < m) {x : Nat} (hxn : x < n) (hx : (ins (q i))[k]? = some x) (h : ds x < 0) {w' : World} {v' : Value}
    (hq : Que w' (w3.heap.size + 1) v' (m + 1) (upd q m x)) (hg : Grew ((wr.setCell ⟨w3.heap.size, x, none⟩ (.int .i64 (ds (q i) + 1))).alloc (.cells #[.int .i64 (x : Nat)] 3)) w' v v') :
    BS n w3 w' ins s v' (upd q m x) (m + 1) i (k + 1) (upd ds x (ds (q i) + 1)) := by
  have hsz := S.size
  refine ⟨?_, ?_, hq, ?_, fun y => ?_⟩
  · exact hg.below ((S.bel.setCell (by simp) _).alloc (by simp; omega) _) (by simp; omega) (fun g e => by have := (S.que.lt g e).1; omega)
  · have h2 := (S.row.set x (.int .i64 (ds (q i) + 1))).alloc (.cells #[.int .i64 (x : Nat)] 3)
    refine (h2.of_block (hg.grown.block _ (by simp; omega) (fun e => by have := (S.que.lt _ e.symm).1; omega))).congr (fun j _ => ?_)
    show (if j = x then Value.int .i64 (ds (q i) + 1) else Value.int .i64 (ds j)) = Value.int .i64 (upd ds x (ds (q i) + 1) j)
    unfold upd
    split <;> rfl
  · exact S.bck.push hi hxn hx h (fun t ht => upd_other _ _ _ (by omega)) (upd_same _ _ _) (fun y hy => upd_other _ _ _ hy) (upd_same _ _ _)
  · have h1 := S.bnd y
    have h2 := S.bnd (q i)
    unfold upd
    split <;> omega
theorem BS.next (S : BS n w3 wr ins s v q m i k ds) (hi : i < m) (hk : (ins (q i)).length ≤ k) : BS n w3 wr ins s v q m (i + 1) 0 ds :=
  { S with bck := S.bck.next hi hk }
end

theorem Bck.drop {ins : Nat → List Nat} {s n : Nat} {q : Nat → Nat} {m : Nat} {ds : Nat → Int} {i : Nat} (v : Bck ins s n q m ds i 0) (hi : i = m) {ns : Nat → List Nat} (he : ∀ b x, x ∈ ins b ↔ b ∈ ns x) (hn : ∀ b x, x ∈ ins b → x < n) : IsDist (Edg ns) s n ds := by
  subst hi
  have h := v.dist hn
  have e : (fun a b => a ∈ ins b) = Edg ns := by
    funext a b
    exact propext (he b a)
  rw [e] at h
  exact h
end Go.Proofs.Qxb6602369a
