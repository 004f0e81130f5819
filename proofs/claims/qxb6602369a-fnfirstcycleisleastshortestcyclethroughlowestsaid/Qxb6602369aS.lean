import Derived.Test.Qxb6602369aF
import Derived.Test.Qxb6602369aShelf
namespace Go.Proofs.Qxb6602369a
open Go.RowKit

/-- The cells of a list of whole numbers. -/
def intL (l : List Int) : List Value := l.map fun x => .int .i64 x
theorem natL_eq (l : List Nat) : natL l = intL (l.map fun (x : Nat) => (x : Int)) := by simp [natL, intL]
theorem intL_nat {l : List Int} (h : ∀ x ∈ l, 0 ≤ x) : intL l = natL (l.map Int.toNat) := by
  unfold intL natL
  rw [List.map_map]
  apply List.map_congr_left
  intro x hx
  have := h x hx
  simp [Int.toNat_of_nonneg this]

theorem putCells_take (d : Array Int) (c : Array Value) (m : Nat) (hm : m ≤ d.size) (hc : d.size ≤ c.size) : (Sort.putCells (Value.int .i64) 0 d c).toList.take m = intL (d.toList.take m) := by
  apply List.ext_getElem?
  intro k
  unfold intL
  rw [List.getElem?_take, List.getElem?_map, List.getElem?_take]
  by_cases hk : k < m
  · rw [if_pos hk, if_pos hk]
    have h1 : k < c.size := by omega
    have h2 : k < d.size := by omega
    simp [Sort.putCells, h1, h2]
  · rw [if_neg hk, if_neg hk]; rfl

theorem owns_put {w w' : World} {base g n cap m : Nat} {xs : List Value} {d : Array Int} (h : w.ownsRow base 3 1 (.slice (some ⟨g, 0, none⟩) n cap) n xs) (hd : d.size = n) (hm : m ≤ n) (hw : w'.heap[g]? = (Sort.putRow (Value.int .i64) w g 0 d).heap[g]?) :
    w'.ownsRow base 3 1 (.slice (some ⟨g, 0, none⟩) m cap) m (intL (d.toList.take m)) := by
  rcases h.2 with ⟨h', _⟩ | ⟨g', cap', cur, h', hb, hg, h1, h2, h3, _⟩
  · cases h'
  · cases h'
    refine ⟨by simp [intL]; omega, .inr ⟨g, cap, Sort.putCells (Value.int .i64) 0 d cur, rfl, hb, ?_, by omega, h2, by simp [Sort.putCells]; omega, ?_⟩⟩
    · rw [hw]
      simp [Sort.putRow, Sort.mapBlock, Array.getElem?_modify, hg, Sort.onCells]
    · rw [Nat.mul_one]
      exact putCells_take d cur m (by omega) (by omega)
theorem owns_holds {w : World} {base g n cap : Nat} {zs : List Int} (h : w.ownsRow base 3 1 (.slice (some ⟨g, 0, none⟩) n cap) n (intL zs)) : Sort.Holds (Value.int .i64) w g 0 zs.toArray ∧ zs.length = n ∧ g < w.heap.size ∧ n ≤ cap := by
  have hl : zs.length = n := by have := h.1; simpa [intL] using this
  rcases h.2 with ⟨h', _⟩ | ⟨g', cap', cur, h', hb, hg, h1, h2, h3, h4⟩
  · cases h'
  · cases h'
    refine ⟨fun j hj => ?_, hl, (Array.getElem?_eq_some_iff.1 hg).1, h1⟩
    have hj' : j < zs.length := by simpa using hj
    rw [Nat.zero_add, h.cellAt j (by omega)]
    refine ⟨by simp [intL, hj'], by simp [World.frozen?, hg]⟩
theorem grew_put {w w' : World} {g n cap m : Nat} (hos : w'.os = w.os) (ht : w'.tape = w.tape) (ho : w'.output = w.output) (hs : w.heap.size ≤ w'.heap.size) (hk : ∀ k, k < w.heap.size → k ≠ g → w'.heap[k]? = w.heap[k]?) :
    Grew w w' (.slice (some ⟨g, 0, none⟩) n cap) (.slice (some ⟨g, 0, none⟩) m cap) :=
  ⟨⟨hos, ht, ho, hs, fun k h1 h2 => hk k h1 (fun e => h2 (by rw [e]; rfl))⟩, .inl rfl⟩
theorem putRow_other (w : World) (g k : Nat) (d : Array Int) (h : k ≠ g) : (Sort.putRow (Value.int .i64) w g 0 d).heap[k]? = w.heap[k]? := by
  simp [Sort.putRow, Sort.mapBlock, Array.getElem?_modify, (Ne.symm h)]

/-- What sorting a row does. -/
def SortP (e : Ending) (base : Nat) (w w' : World) (v : Value) (xs : List Nat) : Prop :=
  e = .returned (.tuple #[]) ∧ ∃ ys : List Nat, ys.Perm xs ∧ ys.Pairwise (· ≤ ·) ∧ w'.ownsRow base 3 1 v xs.length (natL ys) ∧ Grew w w' v v
theorem sort_any (base : Nat) (v : Value) (xs : List Nat) (w : World) (hown : w.ownsRow base 3 1 v xs.length (natL xs)) (hl : xs.length ≤ 100000000) :
    Calls Try.prog 33 #[v] w fun e w' => SortP e base w w' v xs := by
  have hown' := hown
  rw [natL_eq] at hown'
  rcases hown.2 with ⟨rfl, h0⟩ | ⟨g, cap, cur, rfl, hbg, hg, h1, h2, h3, h4⟩
  · have : xs = [] := List.eq_nil_of_length_eq_zero h0
    subst this
    refine (Try.slices_Sort_int_none none 0 w).mono ?_
    rintro e w' ⟨rfl, rfl⟩
    exact ⟨rfl, [], .refl _, .nil, hown, Grew.refl _ _⟩
  · obtain ⟨hH, hlen, hgl, hcap⟩ := owns_holds hown'
    have hF := Try.slices_Sort_int g 0 cap (xs.map fun (x : Nat) => (x : Int)) w hH hgl (by rw [hlen]; omega)
    rw [hlen] at hF
    refine hF.mono ?_
    rintro e w' ⟨rfl, n, os, rfl⟩
    obtain ⟨zs, hzs⟩ : ∃ zs, ((xs.map fun (x : Nat) => (x : Int)).mergeSort fun x y => decide (x ≤ y)) = zs := ⟨_, rfl⟩
    have hperm : zs.Perm (xs.map fun (x : Nat) => (x : Int)) := by rw [← hzs]; exact List.mergeSort_perm _ _
    have hsort : zs.Pairwise (fun a b => a ≤ b) := by
      have h := List.pairwise_mergeSort (le := fun (x y : Int) => decide (x ≤ y)) (fun a b c h1 h2 => by simp at h1 h2 ⊢; omega) (fun a b => by simp; omega) (xs.map fun (x : Nat) => (x : Int))
      rw [hzs] at h
      refine List.pairwise_iff_getElem.2 fun i j hi hj hij => ?_
      have h2 := List.pairwise_iff_getElem.1 h i j hi hj hij
      simpa using h2
    have hzl : zs.length = xs.length := by rw [hperm.length_eq]; simp
    have hnn : ∀ x ∈ zs, 0 ≤ x := fun x hx => by
      obtain ⟨y, _, rfl⟩ := List.mem_map.1 (hperm.mem_iff.1 hx)
      omega
    rw [hzs]
    refine ⟨rfl, zs.map Int.toNat, ?_, ?_, ?_, ?_⟩
    · have := hperm.map Int.toNat
      rw [List.map_map] at this
      simpa [Function.comp_def] using this
    · rw [List.pairwise_map]
      refine List.pairwise_iff_getElem.2 fun i j hi hj hij => ?_
      have h2 := List.pairwise_iff_getElem.1 hsort i j hi hj hij
      omega
    · rw [← intL_nat hnn]
      have := owns_put (w' := Sort.grow (Sort.putRow (Value.int .i64) (Sort.ahead w n) g 0 zs.toArray) os) (m := xs.length) hown (d := zs.toArray) (by simpa using hzl) (Nat.le_refl _) (by rw [Sort.heap_grow_old _ _ (by simpa using hgl)]; rfl)
      rw [List.take_of_length_le (by simp; omega)] at this
      exact this
    · exact grew_put rfl rfl rfl (by simp) (fun k h1 h2 => by rw [Sort.heap_grow_old _ _ (by simpa using h1), putRow_other _ _ _ _ h2]; rfl)

theorem compact_len (zs : List Int) : (Lib.compact zs).length ≤ zs.length := by
  unfold Lib.compact Lib.compactUpTo
  rw [List.length_map]
  refine Nat.le_trans (List.length_filter_le _ _) (by simp)
/-- What of a sorted list is kept: strictly ascending, the same members. -/
theorem compactUpTo_law (d : Array Int) (hs : ∀ i j, i ≤ j → j < d.size → d[i]! ≤ d[j]!) (m : Nat) (hm : m ≤ d.size) :
    (Lib.compactUpTo d m).Pairwise (· < ·) ∧ (∀ x ∈ Lib.compactUpTo d m, ∃ i, i < m ∧ d[i]! = x) ∧ (∀ i, i < m → d[i]! ∈ Lib.compactUpTo d m) := by
  induction m with
  | zero => exact ⟨by simp [Lib.compactUpTo], by simp [Lib.compactUpTo], fun i hi => absurd hi (by omega)⟩
  | succ m ih =>
    obtain ⟨a, b, c⟩ := ih (by omega)
    rw [Lib.compactUpTo_succ]
    by_cases hk : Lib.keeps d m = true
    · rw [if_pos hk]
      refine ⟨List.pairwise_append.2 ⟨a, by simp, fun x hx y hy => ?_⟩, fun x hx => ?_, fun i hi => ?_⟩
      · simp only [List.mem_singleton] at hy
        subst hy
        obtain ⟨i, hi, rfl⟩ := b x hx
        unfold Lib.keeps at hk
        have hk' := of_decide_eq_true hk
        rcases hk' with h | h
        · omega
        · have h1 := hs i (m - 1) (by omega) (by omega)
          have h2 := hs (m - 1) m (by omega) (by omega)
          omega
      · rcases List.mem_append.1 hx with h | h
        · obtain ⟨i, hi, e⟩ := b x h
          exact ⟨i, by omega, e⟩
        · simp only [List.mem_singleton] at h
          exact ⟨m, by omega, h.symm⟩
      · by_cases e : i = m
        · subst e; simp
        · exact List.mem_append_left _ (c i (by omega))
    · rw [if_neg hk, List.append_nil]
      refine ⟨a, fun x hx => ?_, fun i hi => ?_⟩
      · obtain ⟨i, hi, e⟩ := b x hx
        exact ⟨i, by omega, e⟩
      · by_cases e : i = m
        · subst e
          unfold Lib.keeps at hk
          have hk' : ¬ (i = 0 ∨ d[i]! ≠ d[i - 1]!) := fun h => hk (decide_eq_true h)
          have h0 : i ≠ 0 := fun h => hk' (.inl h)
          have h1 : d[i]! = d[i - 1]! := Classical.byContradiction fun h => hk' (.inr h)
          rw [h1]
          exact c (i - 1) (by omega)
        · exact c i (by omega)

theorem compact_owns {w : World} {base g n cap : Nat} {xs : List Value} {zs : List Int} (h : w.ownsRow base 3 1 (.slice (some ⟨g, 0, none⟩) n cap) n xs) (hz : zs.length ≤ n) (q : Nat) :
    (Sort.putRow (Value.int .i64) (Sort.ahead w q) g 0 (zs ++ List.replicate (n - zs.length) 0).toArray).ownsRow base 3 1 (.slice (some ⟨g, 0, none⟩) zs.length cap) zs.length (intL zs) := by
  obtain ⟨d, hd⟩ : ∃ d : Array Int, d = (zs ++ List.replicate (n - zs.length) 0).toArray := ⟨_, rfl⟩
  have h1 : d.size = n := by rw [hd, List.size_toArray, List.length_append, List.length_replicate]; omega
  have h2 : d.toList.take zs.length = zs := by rw [hd]; exact List.take_left
  rw [← hd]
  have := owns_put (w' := Sort.putRow (Value.int .i64) (Sort.ahead w q) g 0 d) (m := zs.length) h h1 hz rfl
  rw [h2] at this
  exact this

/-- What compacting a sorted row does. -/
def CompP (e : Ending) (base : Nat) (w w' : World) (v : Value) (xs : List Nat) : Prop :=
  ∃ (v' : Value) (ys : List Nat), e = .returned v' ∧ ys.Pairwise (· < ·) ∧ (∀ x, x ∈ ys ↔ x ∈ xs) ∧ ys.length ≤ xs.length ∧ w'.ownsRow base 3 1 v' ys.length (natL ys) ∧ Grew w w' v v'
theorem compact_any (base : Nat) (v : Value) (xs : List Nat) (w : World) (hown : w.ownsRow base 3 1 v xs.length (natL xs)) (hl : xs.length ≤ 100000000) (hs : xs.Pairwise (· ≤ ·)) :
    Calls Try.prog 34 #[v] w fun e w' => CompP e base w w' v xs := by
  have hown' := hown
  rw [natL_eq] at hown'
  rcases hown.2 with ⟨rfl, h0⟩ | ⟨g, cap, cur, rfl, hbg, hg, h1, h2, h3, h4⟩
  · have : xs = [] := List.eq_nil_of_length_eq_zero h0
    subst this
    refine (Try.slices_Compact_int_empty none 0 w).mono ?_
    rintro e w' ⟨rfl, rfl⟩
    exact ⟨_, [], rfl, .nil, fun _ => Iff.rfl, Nat.le_refl _, hown, Grew.refl _ _⟩
  · obtain ⟨hH, hlen, hgl, hcap⟩ := owns_holds hown'
    have hF := Try.slices_Compact_int g 0 cap (xs.map fun (x : Nat) => (x : Int)) w hH (by rw [hlen]; omega) (by rw [hlen]; omega)
    rw [hlen] at hF
    refine hF.mono ?_
    rintro e w' ⟨rfl, q, rfl⟩
    have hcl := compact_len (xs.map fun (x : Nat) => (x : Int))
    rw [hlen] at hcl
    have hget : ∀ i, i < xs.length → (xs.map fun (x : Nat) => (x : Int)).toArray[i]! = ((xs.getD i 0 : Nat) : Int) := fun i hi => by
      simp [hi, List.getD]
    have hlaw := compactUpTo_law (xs.map fun (x : Nat) => (x : Int)).toArray (fun i j h1 h2 => by
      have h2' : j < xs.length := by simpa using h2
      rw [hget i (by omega), hget j h2']
      by_cases e : i = j
      · subst e; exact Int.le_refl _
      · have := List.pairwise_iff_getElem.1 hs i j (by omega) h2' (by omega)
        simp [List.getD, h2', (by omega : i < xs.length)]
        exact this) xs.length (by simp)
    obtain ⟨zs, hzs⟩ : ∃ zs, Lib.compact (xs.map fun (x : Nat) => (x : Int)) = zs := ⟨_, rfl⟩
    have hzs' : Lib.compactUpTo (xs.map fun (x : Nat) => (x : Int)).toArray xs.length = zs := by rw [← hzs]; unfold Lib.compact; rw [hlen]
    rw [hzs'] at hlaw
    rw [hzs] at hcl ⊢
    obtain ⟨l1, l2, l3⟩ := hlaw
    have hnn : ∀ x ∈ zs, 0 ≤ x := fun x hx => by
      obtain ⟨i, hi, rfl⟩ := l2 x hx
      rw [hget i hi]; omega
    refine ⟨_, zs.map Int.toNat, rfl, ?_, ?_, by simpa using hcl, ?_, ?_⟩
    · rw [List.pairwise_map]
      exact l1.imp_of_mem fun ha hb h => by have := hnn _ ha; have := hnn _ hb; omega
    · intro x
      rw [List.mem_map]
      constructor
      · rintro ⟨y, hy, rfl⟩
        obtain ⟨i, hi, rfl⟩ := l2 y hy
        rw [hget i hi, Int.toNat_natCast]
        simp [List.getD, hi]
      · intro hx
        obtain ⟨i, hi, rfl⟩ := List.getElem_of_mem hx
        refine ⟨_, l3 i hi, ?_⟩
        rw [hget i hi, Int.toNat_natCast]
        simp [List.getD, hi]
    · rw [← intL_nat hnn, List.length_map]
      exact compact_owns hown hcl q
    · exact grew_put rfl rfl rfl (by simp) (fun k h1 h2 => by rw [putRow_other _ _ _ _ h2]; rfl)
end Go.Proofs.Qxb6602369a
