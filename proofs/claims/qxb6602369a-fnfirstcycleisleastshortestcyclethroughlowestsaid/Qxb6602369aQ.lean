import Derived.Test.Qxb6602369aP
namespace Go.Proofs.Qxb6602369a
open Go.RowKit

/-- A slice of slices of numbers. -/
def RdG (lo : Nat) (w : World) (a : Option Addr) (n : Nat) (ns : Nat → List Nat) : Prop :=
  n = 0 ∨ ∃ b o, a = some ⟨b, o, none⟩ ∧ lo ≤ b ∧ b < w.heap.size ∧ ∀ i, i < n → ∃ ai ci, w.cell? ⟨b, o + i, none⟩ = some (.slice ai (ns i).length ci) ∧ RdI lo w (.slice ai (ns i).length ci) (ns i)
theorem RdG.keep {lo : Nat} {w w' : World} {a : Option Addr} {n : Nat} {ns : Nat → List Nat} (h : RdG lo w a n ns) (k : Kp lo w w') : RdG lo w' a n ns := by
  rcases h with h | ⟨b, o, ea, h1, h2, h3⟩
  · exact .inl h
  · refine .inr ⟨b, o, ea, h1, Nat.lt_of_lt_of_le h2 k.size, fun i hi => ?_⟩
    obtain ⟨ai, ci, hu, hr⟩ := h3 i hi
    exact ⟨ai, ci, (k.cell (p := ⟨b, o + i, none⟩) h1 h2).trans hu, hr.keep k⟩
/-- What the walk is told of one need. -/
theorem RdI.at {lo : Nat} {w : World} {a : Option Addr} {c : Nat} {l : List Nat} (h : RdI lo w (.slice a l.length c) l) {i x : Nat} (hi : l[i]? = some x) : ∃ b o, a = some ⟨b, o, none⟩ ∧ lo ≤ b ∧ b < w.heap.size ∧ w.cell? ⟨b, o + i, none⟩ = some (.int .i64 (x : Nat)) := by
  obtain ⟨a', c', e, hx⟩ := h
  cases e
  have hl : i < l.length := (List.getElem?_eq_some_iff.1 hi).1
  obtain ⟨b, o, ea, h1, h2, h3⟩ := hx (fun e => by rw [e] at hl; simp at hl)
  refine ⟨b, o, ea, h1, h2, ?_⟩
  rw [h3 i hl, List.getD, hi]
  rfl

/-- The sum of f over the first n. -/
def sumTo (f : Nat → Nat) : Nat → Nat
  | 0 => 0
  | n + 1 => sumTo f n + f n
theorem sumTo_congr {f g : Nat → Nat} {n : Nat} (h : ∀ i, i < n → f i = g i) : sumTo f n = sumTo g n := by
  induction n with
  | zero => rfl
  | succ n ih => simp only [sumTo]; rw [ih (fun i hi => h i (by omega)), h n (by omega)]
/-- One member is less by x. -/
theorem sumTo_less {f g : Nat → Nat} {n m x : Nat} (hm : m < n) (hx : f m = g m + x) (h : ∀ i, i < n → i ≠ m → f i = g i) : sumTo f n = sumTo g n + x := by
  induction n with
  | zero => omega
  | succ n ih =>
    simp only [sumTo]
    by_cases e : m = n
    · subst e
      rw [sumTo_congr (fun i hi => h i (by omega) (by omega)), hx]
      omega
    · rw [ih (by omega) (fun i hi => h i (by omega)), h n (by omega) (Ne.symm e)]
      omega
/-- So many rounds at most are to come. -/
def msr (n : Nat) (ns : Nat → List Nat) (r wn wx : Nat → Nat) (h : Nat) : Nat := sumTo (fun v => if r v = 0 then (ns v).length + 2 else 0) n + sumTo (fun j => (ns (wn j)).length + 1 - wx j) h
theorem msr_enter {n : Nat} {ns : Nat → List Nat} {r wn wx : Nat → Nat} {h m c : Nat} (hm : m < n) (hr : r m = 0) (hc : 0 < c) {wn' wx' : Nat → Nat} (h1 : ∀ j, j < h → wn' j = wn j) (h2 : ∀ j, j < h → wx j ≤ wx' j) (h3 : wn' h = m) :
    msr n ns (upd r m c) wn' wx' (h + 1) < msr n ns r wn wx h := by
  have e1 : sumTo (fun v => if r v = 0 then (ns v).length + 2 else 0) n = sumTo (fun v => if upd r m c v = 0 then (ns v).length + 2 else 0) n + ((ns m).length + 2) :=
    sumTo_less hm (by rw [if_pos hr, upd_same, if_neg (by omega)]; omega) (fun i _ hi => by simp [upd, hi])
  have e2 : sumTo (fun j => (ns (wn' j)).length + 1 - wx' j) h ≤ sumTo (fun j => (ns (wn j)).length + 1 - wx j) h := by
    clear h3 e1
    induction h with
    | zero => exact Nat.le_refl _
    | succ h ih =>
      simp only [sumTo]
      have a := ih (fun j hj => h1 j (by omega)) (fun j hj => h2 j (by omega))
      have b := h2 h (by omega)
      rw [h1 h (by omega)]
      omega
  unfold msr
  rw [e1]
  simp only [sumTo]
  rw [h3]
  omega
theorem msr_next {n : Nat} {ns : Nat → List Nat} {r wn wx : Nat → Nat} {h : Nat} (hh : 0 < h) (hlt : wx (h - 1) < (ns (wn (h - 1))).length) : msr n ns r wn (upd wx (h - 1) (wx (h - 1) + 1)) h < msr n ns r wn wx h := by
  have e : sumTo (fun j => (ns (wn j)).length + 1 - wx j) h = sumTo (fun j => (ns (wn j)).length + 1 - upd wx (h - 1) (wx (h - 1) + 1) j) h + 1 :=
    sumTo_less (m := h - 1) (by omega) (by rw [upd_same]; omega) (fun i _ hi => by rw [upd_other _ _ _ hi])
  unfold msr
  rw [e]
  omega
theorem msr_pop {n : Nat} {ns : Nat → List Nat} {r wn wx : Nat → Nat} {h : Nat} (hh : 0 < h) (hx : wx (h - 1) = (ns (wn (h - 1))).length) : msr n ns r wn wx (h - 1) < msr n ns r wn wx h := by
  obtain ⟨k, rfl⟩ : ∃ k, h = k + 1 := ⟨h - 1, by omega⟩
  unfold msr
  simp only [sumTo, Nat.add_sub_cancel] at hx ⊢
  omega

theorem rowIs_one (W : World) (v : Value) (t k : Nat) (hk : W.heap.size = k) : (W.alloc (.cells #[v] t)).rowIs k t 1 (fun _ => v) := by
  subst hk
  exact World.rowIs_alloc W #[v] t (fun _ => v) (fun i hi => by
    have : i = 0 := by simp at hi; omega
    subst this; rfl)
theorem rowIs_mk (W : World) (z : Value) (n t k : Nat) (hk : W.heap.size = k) : (W.alloc (.cells (madeCells #[z] n) t)).rowIs k t n (fun _ => z) := by
  subst hk
  exact World.rowIs_made W z n t
/-- The memory at the start. -/
theorem TM.init (w : World) (n : Nat) : TM w.heap.size n w (((((((((w.alloc (.cells (madeCells #[.int .i64 0] n) 3)).alloc (.cells #[.slice (some ⟨w.heap.size, 0, none⟩) n n] 28)).alloc (.cells (madeCells #[.int .i64 0] n) 3)).alloc
    (.cells #[.slice (some ⟨w.heap.size + 2, 0, none⟩) n n] 28)).alloc (.cells (madeCells #[.bool false] n) 4)).alloc (.cells #[.slice (some ⟨w.heap.size + 4, 0, none⟩) n n] 26)).alloc (.cells (madeCells #[.bool false] n) 4)).alloc (.cells #[.slice none 0 0] 28)).alloc (.cells #[.int .i64 0] 3))
    (fun _ => 0) (fun _ => 0) (fun _ => false) (fun _ => false) (.slice none 0 0) 0 (fun _ => 0) 0 where
  mr := ((((((((rowIs_mk w _ n 3 _ rfl).alloc _).alloc _).alloc _).alloc _).alloc _).alloc _).alloc _).alloc _
  vr := (((((((rowIs_one _ _ 28 _ (by simp)).alloc _).alloc _).alloc _).alloc _).alloc _).alloc _).alloc _
  ml := ((((((rowIs_mk _ _ n 3 _ (by simp)).alloc _).alloc _).alloc _).alloc _).alloc _).alloc _
  vl := (((((rowIs_one _ _ 28 _ (by simp)).alloc _).alloc _).alloc _).alloc _).alloc _
  mo := ((((rowIs_mk _ _ n 4 _ (by simp)).alloc _).alloc _).alloc _).alloc _
  vo := (((rowIs_one _ _ 26 _ (by simp)).alloc _).alloc _).alloc _
  mc := ((rowIs_mk _ _ n 4 _ (by simp)).alloc _).alloc _
  vs := (rowIs_one _ _ 28 _ (by simp)).alloc _
  vc := rowIs_one _ _ 3 _ (by simp)
  own := Own.nil _ _ _ _ _
  bel := (((((((((Below.refl _ _).alloc (by simp) _).alloc (by simp <;> omega) _).alloc (by simp <;> omega) _).alloc (by simp <;> omega) _).alloc (by simp <;> omega) _).alloc (by simp <;> omega) _).alloc (by simp <;> omega) _).alloc (by simp <;> omega) _).alloc (by simp <;> omega) _

/-- The call returned the row of answers. -/
def RetCy (e : Ending) (w w' : World) (n : Nat) (ns : Nat → List Nat) : Prop := ∃ cy : Nat → Bool, e = .returned (.slice (some ⟨w.heap.size + 6, 0, none⟩) n n) ∧ w'.rowIs (w.heap.size + 6) 4 n (fun i => .bool (cy i)) ∧ ∀ v, v < n → (cy v = true ↔ OnC ns v)

/-- The cells of the walk's frames. -/
def stepC (wn wx : Nat → Nat) : Nat → Value := fun j => .int .i64 ((if j % 2 = 0 then wn (j / 2) else wx (j / 2)) : Nat)
theorem stepC_even (wn wx : Nat → Nat) (k : Nat) : stepC wn wx (k * 2) = .int .i64 (wn k : Nat) := by
  unfold stepC
  rw [if_pos (by omega), Nat.mul_div_cancel _ (by omega)]
theorem stepC_odd (wn wx : Nat → Nat) (k : Nat) : stepC wn wx (k * 2 + 1) = .int .i64 (wx k : Nat) := by
  unfold stepC
  rw [if_neg (by omega), (by omega : (k * 2 + 1) / 2 = k)]
theorem inc_bound {f : Nat → Nat} {h : Nat} (h1 : ∀ j j', j < j' → j' < h → f j < f j') (h2 : ∀ j, j < h → 0 < f j) : ∀ j, j < h → j + 1 ≤ f j := by
  intro j
  induction j with
  | zero => intro hj; exact h2 0 hj
  | succ j ih => intro hj; have a := ih (by omega); have b := h1 j (j + 1) (by omega) hj; omega
/-- How many are reached. -/
def many (n : Nat) (r : Nat → Nat) : Nat := sumTo (fun v => if r v = 0 then 0 else 1) n
theorem many_le (n : Nat) (r : Nat → Nat) : many n r ≤ n := by
  unfold many
  induction n with
  | zero => exact Nat.le_refl _
  | succ n ih => simp only [sumTo]; split <;> omega
theorem many_upd {n m c : Nat} {r : Nat → Nat} (hm : m < n) (hr : r m = 0) (hc : 0 < c) : many n (upd r m c) = many n r + 1 := by
  unfold many
  exact sumTo_less hm (by rw [upd_same, if_neg (by omega), if_pos hr]) (fun i _ hi => by simp [upd, hi])

theorem many_zero (n : Nat) : many n (fun _ => 0) = 0 := by
  unfold many
  induction n with
  | zero => rfl
  | succ n ih => simp only [sumTo, if_true] at ih ⊢; omega

/-- Between two roots. -/
def OutR (w wr : World) (n : Nat) (ns : Nat → List Nat) (k : Nat) : Prop :=
  ∃ r l os cy sv st wn wx cnt, TM w.heap.size n w wr r l os cy sv 0 st cnt ∧ Tj n ns r l st 0 wn wx 0 cnt cy ∧ (∀ v, v < k → 0 < r v) ∧ many n r = cnt ∧ ∀ v, os v = false
/-- In the walk. -/
structure InR (w wr : World) (n : Nat) (ns : Nat → List Nat) (k : Nat) (wv : Value) (h gk : Nat) (r l : Nat → Nat) (os cy : Nat → Bool) (sv : Value) (z : Nat) (st wn wx : Nat → Nat) (cnt : Nat) : Prop where
  tm : TM w.heap.size n w wr r l os cy sv z st cnt
  own : Own wr (w.heap.size + 9) 66 2 wv h (stepC wn wx)
  tj : Tj n ns r l st z wn wx h cnt cy
  vis : ∀ v, v < k → 0 < r v
  root : 0 < r k
  cnts : many n r = cnt
  ons : ∀ v, os v = true ↔ InS st z v
  ms : msr n ns r wn wx h ≤ gk
def InR' (w wr : World) (n : Nat) (ns : Nat → List Nat) (k : Nat) (wv : Value) (gk : Nat) : Prop := ∃ h r l os cy sv z st wn wx cnt, InR w wr n ns k wv h gk r l os cy sv z st wn wx cnt
theorem InR.bounds {w wr : World} {n : Nat} {ns : Nat → List Nat} {k : Nat} {wv : Value} {h gk : Nat} {r l : Nat → Nat} {os cy : Nat → Bool} {sv : Value} {z : Nat} {st wn wx : Nat → Nat} {cnt : Nat} (I : InR w wr n ns k wv h gk r l os cy sv z st wn wx cnt) : cnt ≤ n ∧ z ≤ n ∧ h ≤ n := by
  have hc : cnt ≤ n := by rw [← I.cnts]; exact many_le _ _
  refine ⟨hc, ?_, ?_⟩
  · by_cases e : z = 0
    · omega
    · have a := inc_bound (f := fun j => r (st j)) (h := z) I.tj.s_srt I.tj.s_vis (z - 1) (by omega)
      have b := I.tj.r_cnt (st (z - 1)) (I.tj.s_lt _ (by omega))
      omega
  · by_cases e : h = 0
    · omega
    · have a := inc_bound (f := fun j => r (wn j)) (h := h) I.tj.w_srt (fun j hj => (I.tj.in_lt (I.tj.w_in j hj)).2) (h - 1) (by omega)
      have b := I.tj.r_cnt (wn (h - 1)) (I.tj.in_lt (I.tj.w_in _ (by omega))).1
      omega

/-- A root is entered. -/
theorem InR.first {w w1 : World} {n : Nat} {ns : Nat → List Nat} {k : Nat} {r l : Nat → Nat} {os cy : Nat → Bool} {sv1 : Value} {st wn wx : Nat → Nat} {cnt : Nat}
    (T1 : TM w.heap.size n w w1 (upd r k (cnt + 1)) (upd l k (cnt + 1)) (upd os k true) cy sv1 (0 + 1) (upd st 0 k) (cnt + 1)) (J : Tj n ns r l st 0 wn wx 0 cnt cy) (hkn : k < n) (hr : r k = 0) (hvis : ∀ v, v < k → 0 < r v) (hcnt : many n r = cnt) (hos : ∀ v, os v = false) :
    InR' w (w1.alloc (.cells #[.int .i64 (k : Nat), .int .i64 0] 66)) n ns k (.slice (some ⟨w1.heap.size, 0, none⟩) 1 1) (msr n ns (upd r k (cnt + 1)) (fun _ => k) (fun _ => 0) 1) := by
  refine ⟨1, _, _, _, _, _, _, _, fun _ => k, fun _ => 0, _, T1.alloc _, ?_, ?_, ?_, by rw [upd_same]; omega, ?_, ?_, Nat.le_refl _⟩
  · have h := World.ownsRow_lit (base := w.heap.size + 9) (e := 66) (size := 2) w1 #[.int .i64 (k : Nat), .int .i64 0] 1 T1.size (by unfold maxLen; omega) rfl
    exact h
  · exact J.enter hkn hr (fun j hj => by omega) (fun _ => rfl) (fun v hv => upd_other _ _ _ hv) (upd_same _ _ _) (fun v hv => upd_other _ _ _ hv) (upd_same _ _ _) (fun j hj => by omega) (upd_same _ _ _) (fun j hj => by omega) (fun j hj => by omega) ⟨rfl, rfl⟩
  · intro v hv
    rw [upd_other _ _ _ (by omega)]; exact hvis v hv
  · rw [many_upd hkn hr (by omega), hcnt]
  · intro v
    constructor
    · intro h
      by_cases e : v = k
      · exact ⟨0, by omega, by rw [e, upd_same]⟩
      · rw [upd_other _ _ _ e, hos] at h; cases h
    · rintro ⟨j, hj, e⟩
      obtain rfl : j = 0 := by omega
      rw [upd_same] at e
      rw [← e, upd_same]
section
variable {w wr : World} {n : Nat} {ns : Nat → List Nat} {k : Nat} {wv : Value} {h gk : Nat} {r l : Nat → Nat} {os cy : Nat → Bool} {sv : Value} {z : Nat} {st wn wx : Nat → Nat} {cnt : Nat}
theorem InR.drewN (I : InR w wr n ns k wv h gk r l os cy sv z st wn wx cnt) (q : Nat) : InR w (wr.drewN q) n ns k wv h gk r l os cy sv z st wn wx cnt where
  tm := ⟨I.tm.mr, I.tm.vr, I.tm.ml, I.tm.vl, I.tm.mo, I.tm.vo, I.tm.mc, I.tm.vs, I.tm.vc, I.tm.own, below_drewN I.tm.bel q⟩
  own := I.own
  tj := I.tj
  vis := I.vis
  root := I.root
  cnts := I.cnts
  ons := I.ons
  ms := I.ms
/-- The walk from a root is over. -/
theorem InR.over (I : InR w wr n ns k wv 0 gk r l os cy sv z st wn wx cnt) : OutR w wr n ns (k + 1) := by
  have hz := I.tj.empty
  subst hz
  refine ⟨r, l, os, cy, sv, st, wn, wx, cnt, I.tm, I.tj, fun v hv => ?_, I.cnts, fun v => ?_⟩
  · by_cases e : v = k
    · rw [e]; exact I.root
    · exact I.vis v (by omega)
  · cases hv : os v with
    | false => rfl
    | true => obtain ⟨j, hj, _⟩ := (I.ons v).1 hv; omega
theorem InR.flat (I : InR w wr n ns k wv 0 gk r l os cy sv z st wn wx cnt) : ∃ a c, wv = .slice a 0 c := by
  rcases I.own.2 with ⟨h, _⟩ | ⟨g, cap, cur, h, _⟩
  · exact ⟨_, _, h⟩
  · exact ⟨_, _, h⟩
end
end Go.Proofs.Qxb6602369a
