import Derived.Test.Qxb6602369aS
import Derived.Test.Qxb6602369aT
import Derived.Deep.LoopGhost
namespace Go.Proofs.Qxb6602369a
open Go.RowKit

/-- A row of the call's own, its cells by the index. -/
def Own (w : World) (base e size : Nat) (v : Value) (n : Nat) (f : Nat → Value) : Prop := w.ownsRow base e size v n ((List.range (n * size)).map f)

section
variable {w w' : World} {base e size n g cap : Nat} {v : Value} {f f' : Nat → Value}
theorem Own.form (h : Own w base e size v n f) (hn : 0 < n) : ∃ g cap, v = .slice (some ⟨g, 0, none⟩) n cap ∧ base ≤ g ∧ g < w.heap.size ∧ n ≤ cap ∧ cap ≤ maxLen := by
  rcases h.2 with ⟨_, h0⟩ | ⟨g, cap, cur, h1, h2, h3, h4, h5, _⟩
  · omega
  · exact ⟨g, cap, h1, h2, (Array.getElem?_eq_some_iff.1 h3).1, h4, h5⟩
theorem Own.nil (w : World) (base e size : Nat) (f : Nat → Value) : Own w base e size (.slice none 0 0) 0 f := by
  unfold Own
  rw [Nat.zero_mul]
  exact World.ownsRow_nil _ _ _ _
theorem Own.cell (h : Own w base e size (.slice (some ⟨g, 0, none⟩) n cap) n f) {j : Nat} (hj : j < n * size) : w.cell? ⟨g, j, none⟩ = some (f j) := by
  rw [World.ownsRow.cellAt h j hj]
  simp [hj]
theorem Own.frozen (h : Own w base e size (.slice (some ⟨g, 0, none⟩) n cap) n f) (j : Nat) : w.frozen? ⟨g, j, none⟩ = false := World.ownsRow.frozenAt h j
theorem Own.congr (h : Own w base e size v n f) (hf : ∀ j, j < n * size → f j = f' j) : Own w base e size v n f' := by
  unfold Own at h ⊢
  have : (List.range (n * size)).map f = (List.range (n * size)).map f' := List.map_congr_left fun j hj => hf j (List.mem_range.1 hj)
  rw [← this]; exact h
theorem Own.set (h : Own w base e size (.slice (some ⟨g, 0, none⟩) n cap) n f) (j : Nat) (u : Value) : Own (w.setCell ⟨g, j, none⟩ u) base e size (.slice (some ⟨g, 0, none⟩) n cap) n (fun i => if i = j then u else f i) := by
  have := (World.ownsRow.stored h j u).1
  have e : ((List.range (n * size)).map f).set j u = (List.range (n * size)).map (fun i => if i = j then u else f i) := by
    apply List.ext_getElem?
    intro i
    rw [List.getElem?_set]
    by_cases hij : i = j
    · subst hij
      by_cases hi : i < n * size
      · simp [hi]
      · simp [hi]
    · rw [if_neg (Ne.symm hij)]
      by_cases hi : i < n * size
      · simp [hi, hij]
      · simp [hi]
  rw [e] at this
  exact this
theorem Own.cut (h : Own w base e size (.slice (some ⟨g, 0, none⟩) n cap) n f) {m : Nat} (hm : m ≤ n) : Own w base e size (.slice (some ⟨g, 0, none⟩) m cap) m f := by
  rcases h.2 with ⟨h', _⟩ | ⟨g', cap', cur, h', h2, h3, h4, h5, h6, h7⟩
  · cases h'
  · cases h'
    refine ⟨by simp, .inr ⟨g, cap, cur, rfl, h2, h3, by omega, h5, h6, ?_⟩⟩
    have hle : m * size ≤ n * size := Nat.mul_le_mul_right _ hm
    have h8 : (cur.toList.take (n * size)).take (m * size) = ((List.range (n * size)).map f).take (m * size) := by rw [h7]
    rw [List.take_take, Nat.min_eq_left hle] at h8
    rw [h8, ← List.map_take, List.take_range, Nat.min_eq_left hle]
theorem Own.of_block (h : Own w base e size v n f) (hb : ∀ g, v.ownBlock = some g → w'.heap[g]? = w.heap[g]?) : Own w' base e size v n f := by
  refine ⟨h.1, ?_⟩
  rcases h.2 with h' | ⟨g', cap', cur, h', h2, h3, h4⟩
  · exact .inl h'
  · exact .inr ⟨g', cap', cur, h', h2, (hb g' (by rw [h']; rfl)).trans h3, h4⟩
theorem Own.lt (h : Own w base e size v n f) : ∀ k, v.ownBlock = some k → base ≤ k ∧ k < w.heap.size := World.ownsRow.lt h
theorem Own.snoc {news : List Value} (h : w.ownsRow base e size v (n + 1) ((List.range (n * size)).map f ++ news)) (hk : news.length = size) (h1 : ∀ j, j < n * size → f' j = f j) (h2 : ∀ j, j < size → news[j]? = some (f' (n * size + j))) : Own w base e size v (n + 1) f' := by
  unfold Own
  have e : (List.range (n * size)).map f ++ news = (List.range ((n + 1) * size)).map f' := by
    apply List.ext_getElem?
    intro i
    by_cases hi : i < n * size
    · rw [List.getElem?_append_left (by simpa using hi)]
      have : i < (n + 1) * size := by rw [Nat.add_mul]; omega
      simp [hi, this, h1 i hi]
    · rw [List.getElem?_append_right (by simpa using Nat.le_of_not_lt hi)]
      rw [List.length_map, List.length_range]
      by_cases hi2 : i < (n + 1) * size
      · rw [Nat.add_mul, Nat.one_mul] at hi2
        rw [h2 (i - n * size) (by omega), (by omega : n * size + (i - n * size) = i)]
        have : i < (n + 1) * size := by rw [Nat.add_mul]; omega
        simp [this]
      · rw [Nat.add_mul, Nat.one_mul] at hi2
        rw [List.getElem?_eq_none (by omega)]
        have : ¬ i < (n + 1) * size := by rw [Nat.add_mul]; omega
        simp [this]
  rw [← e]; exact h
theorem Own.apart {base2 e2 size2 n2 : Nat} {v2 : Value} {f2 : Nat → Value} (h : Own w base e size v n f) (h2 : Own w base2 e2 size2 v2 n2 f2) (hne : e ≠ e2) : ∀ g, v.ownBlock = some g → v2.ownBlock ≠ some g := by
  intro g hg hg2
  rcases h.2 with ⟨rfl, _⟩ | ⟨g1, c1, cur1, rfl, _, a1, _⟩
  · cases hg
  rcases h2.2 with ⟨rfl, _⟩ | ⟨g3, c3, cur3, rfl, _, a3, _⟩
  · cases hg2
  cases hg
  cases hg2
  rw [a1] at a3
  cases a3
  exact hne rfl
end

def upd {α : Type} (f : Nat → α) (i : Nat) (x : α) : Nat → α := fun j => if j = i then x else f j
theorem upd_same {α : Type} (f : Nat → α) (i : Nat) (x : α) : upd f i x i = x := by simp [upd]
theorem upd_other {α : Type} (f : Nat → α) (i : Nat) (x : α) {j : Nat} (h : j ≠ i) : upd f i x j = f j := by simp [upd, h]
theorem rowIs_upd {w : World} {b t n : Nat} {f : Nat → Nat} (h : w.rowIs b t n (fun i => .int .i64 (f i : Nat))) (i x : Nat) : (w.setCell ⟨b, i, none⟩ (.int .i64 (x : Nat))).rowIs b t n (fun j => .int .i64 (upd f i x j : Nat)) :=
  (h.set i _).congr fun j _ => by
    by_cases e : j = i
    · subst e; simp [upd]
    · simp [upd, e]
theorem rowIs_updB {w : World} {b t n : Nat} {f : Nat → Bool} (h : w.rowIs b t n (fun i => .bool (f i))) (i : Nat) (x : Bool) : (w.setCell ⟨b, i, none⟩ (.bool x)).rowIs b t n (fun j => .bool (upd f i x j)) :=
  (h.set i _).congr fun j _ => by
    by_cases e : j = i
    · subst e; simp [upd]
    · simp [upd, e]

/-- The memory of onCycle. -/
structure TM (B n : Nat) (w0 w : World) (r l : Nat → Nat) (os cy : Nat → Bool) (sv : Value) (z : Nat) (st : Nat → Nat) (cnt : Nat) : Prop where
  mr : w.rowIs B 3 n (fun i => .int .i64 (r i : Nat))
  vr : w.rowIs (B + 1) 28 1 (fun _ => .slice (some ⟨B, 0, none⟩) n n)
  ml : w.rowIs (B + 2) 3 n (fun i => .int .i64 (l i : Nat))
  vl : w.rowIs (B + 3) 28 1 (fun _ => .slice (some ⟨B + 2, 0, none⟩) n n)
  mo : w.rowIs (B + 4) 4 n (fun i => .bool (os i))
  vo : w.rowIs (B + 5) 26 1 (fun _ => .slice (some ⟨B + 4, 0, none⟩) n n)
  mc : w.rowIs (B + 6) 4 n (fun i => .bool (cy i))
  vs : w.rowIs (B + 7) 28 1 (fun _ => sv)
  vc : w.rowIs (B + 8) 3 1 (fun _ => .int .i64 (cnt : Nat))
  own : Own w (B + 9) 3 1 sv z (fun j => .int .i64 (st j : Nat))
  bel : Below B w0 w

section
variable {B n : Nat} {w0 w w' : World} {r l : Nat → Nat} {os cy : Nat → Bool} {sv : Value} {z : Nat} {st : Nat → Nat} {cnt : Nat}
theorem TM.keep (h : TM B n w0 w r l os cy sv z st cnt) (hb : Below B w0 w') (hk : ∀ k, B ≤ k → k < B + 9 → w'.heap[k]? = w.heap[k]?) (hs : ∀ g, sv.ownBlock = some g → w'.heap[g]? = w.heap[g]?) : TM B n w0 w' r l os cy sv z st cnt where
  mr := h.mr.of_block (hk _ (by omega) (by omega))
  vr := h.vr.of_block (hk _ (by omega) (by omega))
  ml := h.ml.of_block (hk _ (by omega) (by omega))
  vl := h.vl.of_block (hk _ (by omega) (by omega))
  mo := h.mo.of_block (hk _ (by omega) (by omega))
  vo := h.vo.of_block (hk _ (by omega) (by omega))
  mc := h.mc.of_block (hk _ (by omega) (by omega))
  vs := h.vs.of_block (hk _ (by omega) (by omega))
  vc := h.vc.of_block (hk _ (by omega) (by omega))
  own := h.own.of_block hs
  bel := hb
theorem TM.size (h : TM B n w0 w r l os cy sv z st cnt) : B + 9 ≤ w.heap.size := h.vc.lt
theorem TM.alloc (h : TM B n w0 w r l os cy sv z st cnt) (o : Obj) : TM B n w0 (w.alloc o) r l os cy sv z st cnt :=
  h.keep (h.bel.alloc (by have := h.size; omega) _) (fun k _ hk => Below.heap_alloc _ _ _ (by have := h.size; omega)) (fun g hg => Below.heap_alloc _ _ _ (h.own.lt g hg).2)
theorem TM.drew (h : TM B n w0 w r l os cy sv z st cnt) : TM B n w0 w.drew r l os cy sv z st cnt := ⟨h.mr, h.vr, h.ml, h.vl, h.mo, h.vo, h.mc, h.vs, h.vc, h.own, h.bel.drew⟩
theorem TM.setR (h : TM B n w0 w r l os cy sv z st cnt) (i x : Nat) : TM B n w0 (w.setCell ⟨B, i, none⟩ (.int .i64 (x : Nat))) (upd r i x) l os cy sv z st cnt where
  mr := rowIs_upd h.mr i x
  vr := h.vr.setOther (by simp) _
  ml := h.ml.setOther (by simp) _
  vl := h.vl.setOther (by simp) _
  mo := h.mo.setOther (by simp) _
  vo := h.vo.setOther (by simp) _
  mc := h.mc.setOther (by simp) _
  vs := h.vs.setOther (by simp) _
  vc := h.vc.setOther (by simp) _
  own := h.own.of_block fun g hg => Below.heap_setCell _ _ _ _ (by have := (h.own.lt g hg).1; simp; omega)
  bel := h.bel.setCell (by simp) _
theorem TM.setL (h : TM B n w0 w r l os cy sv z st cnt) (i x : Nat) : TM B n w0 (w.setCell ⟨B + 2, i, none⟩ (.int .i64 (x : Nat))) r (upd l i x) os cy sv z st cnt where
  mr := h.mr.setOther (by simp) _
  vr := h.vr.setOther (by simp) _
  ml := rowIs_upd h.ml i x
  vl := h.vl.setOther (by simp) _
  mo := h.mo.setOther (by simp) _
  vo := h.vo.setOther (by simp) _
  mc := h.mc.setOther (by simp) _
  vs := h.vs.setOther (by simp) _
  vc := h.vc.setOther (by simp) _
  own := h.own.of_block fun g hg => Below.heap_setCell _ _ _ _ (by have := (h.own.lt g hg).1; simp; omega)
  bel := h.bel.setCell (by simp) _
theorem TM.setO (h : TM B n w0 w r l os cy sv z st cnt) (i : Nat) (x : Bool) : TM B n w0 (w.setCell ⟨B + 4, i, none⟩ (.bool x)) r l (upd os i x) cy sv z st cnt where
  mr := h.mr.setOther (by simp) _
  vr := h.vr.setOther (by simp) _
  ml := h.ml.setOther (by simp) _
  vl := h.vl.setOther (by simp) _
  mo := rowIs_updB h.mo i x
  vo := h.vo.setOther (by simp) _
  mc := h.mc.setOther (by simp) _
  vs := h.vs.setOther (by simp) _
  vc := h.vc.setOther (by simp) _
  own := h.own.of_block fun g hg => Below.heap_setCell _ _ _ _ (by have := (h.own.lt g hg).1; simp; omega)
  bel := h.bel.setCell (by simp) _
theorem TM.setC (h : TM B n w0 w r l os cy sv z st cnt) (i : Nat) (x : Bool) : TM B n w0 (w.setCell ⟨B + 6, i, none⟩ (.bool x)) r l os (upd cy i x) sv z st cnt where
  mr := h.mr.setOther (by simp) _
  vr := h.vr.setOther (by simp) _
  ml := h.ml.setOther (by simp) _
  vl := h.vl.setOther (by simp) _
  mo := h.mo.setOther (by simp) _
  vo := h.vo.setOther (by simp) _
  mc := rowIs_updB h.mc i x
  vs := h.vs.setOther (by simp) _
  vc := h.vc.setOther (by simp) _
  own := h.own.of_block fun g hg => Below.heap_setCell _ _ _ _ (by have := (h.own.lt g hg).1; simp; omega)
  bel := h.bel.setCell (by simp) _
theorem TM.setN (h : TM B n w0 w r l os cy sv z st cnt) (x : Nat) : TM B n w0 (w.setCell ⟨B + 8, 0, none⟩ (.int .i64 (x : Nat))) r l os cy sv z st x where
  mr := h.mr.setOther (by simp) _
  vr := h.vr.setOther (by simp) _
  ml := h.ml.setOther (by simp) _
  vl := h.vl.setOther (by simp) _
  mo := h.mo.setOther (by simp) _
  vo := h.vo.setOther (by simp) _
  mc := h.mc.setOther (by simp) _
  vs := h.vs.setOther (by simp) _
  vc := (h.vc.set 0 _).congr fun j hj => by simp [(by omega : j = 0)]
  own := h.own.of_block fun g hg => Below.heap_setCell _ _ _ _ (by have := (h.own.lt g hg).1; simp; omega)
  bel := h.bel.setCell (by simp) _
/-- The stack's variable takes another value. -/
theorem TM.setS {sv' : Value} {z' : Nat} {st' : Nat → Nat} (h : TM B n w0 w r l os cy sv z st cnt) (ho : Own w (B + 9) 3 1 sv' z' (fun j => .int .i64 (st' j : Nat))) : TM B n w0 (w.setCell ⟨B + 7, 0, none⟩ sv') r l os cy sv' z' st' cnt where
  mr := h.mr.setOther (by simp) _
  vr := h.vr.setOther (by simp) _
  ml := h.ml.setOther (by simp) _
  vl := h.vl.setOther (by simp) _
  mo := h.mo.setOther (by simp) _
  vo := h.vo.setOther (by simp) _
  mc := h.mc.setOther (by simp) _
  vs := (h.vs.set 0 _).congr fun j hj => by simp [(by omega : j = 0)]
  vc := h.vc.setOther (by simp) _
  own := ho.of_block fun g hg => Below.heap_setCell _ _ _ _ (by have := (ho.lt g hg).1; simp; omega)
  bel := h.bel.setCell (by simp) _
end
end Go.Proofs.Qxb6602369a
