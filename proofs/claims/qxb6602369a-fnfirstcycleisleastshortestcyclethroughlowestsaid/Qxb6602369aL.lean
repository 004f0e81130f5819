import Derived.Test.Qxb6602369aRows
import Derived.WalkKit
import Derived.ProofKit
import Derived.Below
import Derived.Deep.QuietTactic
import Derived.Deep.OwnRows
import Derived.Deep.RegionWith
import Derived.BigQuiet
import Derived.BigRegion
import Derived.WalkSpells
import Derived.WalkLawsBesides
import Derived.Laws.Rows
import Derived.Laws.Tables
namespace Go.Proofs.Qxb6602369a
open Go.RowKit

/-- The call returned a bool, and it is true just where p holds. -/
def RetB (e : Ending) (p : Prop) : Prop := ∃ v : Bool, e = .returned (.bool v) ∧ (v = true ↔ p)
theorem RetB.no {p : Prop} (h : ¬ p) : RetB (.returned (.bool false)) p := ⟨false, rfl, by simp [h]⟩
theorem RetB.yes {p : Prop} (h : p) : RetB (.returned (.bool true)) p := ⟨true, rfl, by simp [h]⟩

/-- The blocks from lo on that were there are as they were. -/
structure Kp (lo : Nat) (w w' : World) : Prop where
  size : w.heap.size ≤ w'.heap.size
  block : ∀ k, lo ≤ k → k < w.heap.size → w'.heap[k]? = w.heap[k]?

theorem Kp.of_below {w w' : World} (h : Below w.heap.size w w') (lo : Nat) : Kp lo w w' := ⟨h.size, fun k _ hk => h.block k hk⟩
theorem Kp.refl (lo : Nat) (w : World) : Kp lo w w := ⟨Nat.le_refl _, fun _ _ _ => rfl⟩
theorem Kp.trans {lo : Nat} {a b c : World} (h : Kp lo a b) (h' : Kp lo b c) : Kp lo a c :=
  ⟨Nat.le_trans h.size h'.size, fun k h1 h2 => (h'.block k h1 (Nat.lt_of_lt_of_le h2 h.size)).trans (h.block k h1 h2)⟩
theorem Kp.setCell {lo : Nat} {w : World} (a : Addr) (ha : a.block < lo) (v : Value) : Kp lo w (w.setCell a v) :=
  ⟨by rw [Deep.nblk_setCell]; exact Nat.le_refl _, fun k h1 _ => Deep.blk_setCell_other _ _ _ _ (by omega)⟩
theorem Kp.mono {lo lo' : Nat} {w w' : World} (h : Kp lo w w') (hl : lo ≤ lo') : Kp lo' w w' := ⟨h.size, fun k h1 h2 => h.block k (by omega) h2⟩
theorem Kp.cell {lo : Nat} {w w' : World} (h : Kp lo w w') {p : Addr} (h1 : lo ≤ p.block) (h2 : p.block < w.heap.size) : w'.cell? p = w.cell? p := World.cell?_of_block (w := w) (h.block _ h1 h2)

/-- A slice of ints. -/
def RdI (lo : Nat) (w : World) (v : Value) (l : List Nat) : Prop :=
  ∃ a c, v = .slice a l.length c ∧ (l ≠ [] → ∃ b o, a = some ⟨b, o, none⟩ ∧ lo ≤ b ∧ b < w.heap.size ∧ ∀ i, i < l.length → w.cell? ⟨b, o + i, none⟩ = some (.int .i64 (l.getD i 0 : Nat)))
/-- A slice of Refs. -/
def RdR (lo : Nat) (w : World) (v : Value) (l : List (Int × Int)) : Prop :=
  ∃ a c, v = .slice a l.length c ∧ (l ≠ [] → ∃ b o, a = some ⟨b, o, none⟩ ∧ lo ≤ b ∧ b < w.heap.size ∧ ∀ i, i < l.length → w.cell? ⟨b, o + i * 2, none⟩ = some (.int .i64 (l.getD i (0, 0)).1) ∧ w.cell? ⟨b, o + i * 2 + 1, none⟩ = some (.int .i64 (l.getD i (0, 0)).2))
/-- A slice of slices of Refs. -/
def RdP (lo : Nat) (w : World) (v : Value) (l : List (List (Int × Int))) : Prop :=
  ∃ a c, v = .slice a l.length c ∧ (l ≠ [] → ∃ b o, a = some ⟨b, o, none⟩ ∧ lo ≤ b ∧ b < w.heap.size ∧ ∀ i, i < l.length → ∃ u, w.cell? ⟨b, o + i, none⟩ = some u ∧ RdR lo w u (l.getD i []))
/-- A node's data: its needs, its parts, whether it leads. -/
structure NodeD where
  needs : List (Int × Int)
  parts : List (List (Int × Int))
  lead : Bool
def nodeZ : NodeD := ⟨[], [], false⟩
/-- A slice of nodes. -/
def RdN (lo : Nat) (w : World) (v : Value) (l : List NodeD) : Prop :=
  ∃ a c, v = .slice a l.length c ∧ (l ≠ [] → ∃ b o, a = some ⟨b, o, none⟩ ∧ lo ≤ b ∧ b < w.heap.size ∧ ∀ i, i < l.length → ∃ u1 u2, w.cell? ⟨b, o + i * 3, none⟩ = some u1 ∧ w.cell? ⟨b, o + i * 3 + 1, none⟩ = some u2 ∧ w.cell? ⟨b, o + i * 3 + 2, none⟩ = some (.bool (l.getD i nodeZ).lead) ∧
    RdR lo w u1 (l.getD i nodeZ).needs ∧ RdP lo w u2 (l.getD i nodeZ).parts)

section
variable {lo : Nat} {w w' : World} {v : Value}
theorem RdI.keep {l : List Nat} (h : RdI lo w v l) (k : Kp lo w w') : RdI lo w' v l := by
  obtain ⟨a, c, e, hx⟩ := h
  refine ⟨a, c, e, fun hne => ?_⟩
  obtain ⟨b, o, ea, h1, h2, h3⟩ := hx hne
  exact ⟨b, o, ea, h1, Nat.lt_of_lt_of_le h2 k.size, fun i hi => (k.cell (p := ⟨b, o + i, none⟩) h1 h2).trans (h3 i hi)⟩
theorem RdR.keep {l : List (Int × Int)} (h : RdR lo w v l) (k : Kp lo w w') : RdR lo w' v l := by
  obtain ⟨a, c, e, hx⟩ := h
  refine ⟨a, c, e, fun hne => ?_⟩
  obtain ⟨b, o, ea, h1, h2, h3⟩ := hx hne
  exact ⟨b, o, ea, h1, Nat.lt_of_lt_of_le h2 k.size, fun i hi => ⟨(k.cell (p := ⟨b, o + i * 2, none⟩) h1 h2).trans (h3 i hi).1, (k.cell (p := ⟨b, o + i * 2 + 1, none⟩) h1 h2).trans (h3 i hi).2⟩⟩
theorem RdP.keep {l : List (List (Int × Int))} (h : RdP lo w v l) (k : Kp lo w w') : RdP lo w' v l := by
  obtain ⟨a, c, e, hx⟩ := h
  refine ⟨a, c, e, fun hne => ?_⟩
  obtain ⟨b, o, ea, h1, h2, h3⟩ := hx hne
  refine ⟨b, o, ea, h1, Nat.lt_of_lt_of_le h2 k.size, fun i hi => ?_⟩
  obtain ⟨u, hu, hr⟩ := h3 i hi
  exact ⟨u, (k.cell (p := ⟨b, o + i, none⟩) h1 h2).trans hu, hr.keep k⟩
theorem RdN.keep {l : List NodeD} (h : RdN lo w v l) (k : Kp lo w w') : RdN lo w' v l := by
  obtain ⟨a, c, e, hx⟩ := h
  refine ⟨a, c, e, fun hne => ?_⟩
  obtain ⟨b, o, ea, h1, h2, h3⟩ := hx hne
  refine ⟨b, o, ea, h1, Nat.lt_of_lt_of_le h2 k.size, fun i hi => ?_⟩
  obtain ⟨u1, u2, g1, g2, g3, r1, r2⟩ := h3 i hi
  exact ⟨u1, u2, (k.cell (p := ⟨b, o + i * 3, none⟩) h1 h2).trans g1, (k.cell (p := ⟨b, o + i * 3 + 1, none⟩) h1 h2).trans g2, (k.cell (p := ⟨b, o + i * 3 + 2, none⟩) h1 h2).trans g3, r1.keep k, r2.keep k⟩
theorem RdI.lower {lo' : Nat} {l : List Nat} (h : RdI lo w v l) (hl : lo' ≤ lo) : RdI lo' w v l := by
  obtain ⟨a, c, e, hx⟩ := h
  refine ⟨a, c, e, fun hne => ?_⟩
  obtain ⟨b, o, ea, h1, h2⟩ := hx hne
  exact ⟨b, o, ea, by omega, h2⟩
theorem RdR.lower {lo' : Nat} {l : List (Int × Int)} (h : RdR lo w v l) (hl : lo' ≤ lo) : RdR lo' w v l := by
  obtain ⟨a, c, e, hx⟩ := h
  refine ⟨a, c, e, fun hne => ?_⟩
  obtain ⟨b, o, ea, h1, h2⟩ := hx hne
  exact ⟨b, o, ea, by omega, h2⟩
theorem RdP.lower {lo' : Nat} {l : List (List (Int × Int))} (h : RdP lo w v l) (hl : lo' ≤ lo) : RdP lo' w v l := by
  obtain ⟨a, c, e, hx⟩ := h
  refine ⟨a, c, e, fun hne => ?_⟩
  obtain ⟨b, o, ea, h1, h2, h3⟩ := hx hne
  refine ⟨b, o, ea, by omega, h2, fun i hi => ?_⟩
  obtain ⟨u, hu, hr⟩ := h3 i hi
  exact ⟨u, hu, hr.lower hl⟩
theorem RdN.lower {lo' : Nat} {l : List NodeD} (h : RdN lo w v l) (hl : lo' ≤ lo) : RdN lo' w v l := by
  obtain ⟨a, c, e, hx⟩ := h
  refine ⟨a, c, e, fun hne => ?_⟩
  obtain ⟨b, o, ea, h1, h2, h3⟩ := hx hne
  refine ⟨b, o, ea, by omega, h2, fun i hi => ?_⟩
  obtain ⟨u1, u2, g1, g2, g3, r1, r2⟩ := h3 i hi
  exact ⟨u1, u2, g1, g2, g3, r1.lower hl, r2.lower hl⟩
theorem RdR.nil (lo : Nat) (w : World) (a : Option Addr) (c : Nat) : RdR lo w (.slice a 0 c) [] := ⟨a, c, rfl, fun h => absurd rfl h⟩
theorem RdP.nil (lo : Nat) (w : World) (a : Option Addr) (c : Nat) : RdP lo w (.slice a 0 c) [] := ⟨a, c, rfl, fun h => absurd rfl h⟩
theorem RdI.nil (lo : Nat) (w : World) (a : Option Addr) (c : Nat) : RdI lo w (.slice a 0 c) [] := ⟨a, c, rfl, fun h => absurd rfl h⟩
end

/-- What a walk over a slice of Refs is told: an index's cells. -/
theorem RdR.at {lo : Nat} {w : World} {a : Option Addr} {n c : Nat} {l : List (Int × Int)} (h : RdR lo w (.slice a n c) l) : n = l.length ∧ (l = [] ∨ ∃ b o, a = some ⟨b, o, none⟩ ∧ lo ≤ b ∧ b < w.heap.size ∧ ∀ i, i < l.length → w.cell? ⟨b, o + i * 2, none⟩ = some (.int .i64 (l.getD i (0, 0)).1) ∧ w.cell? ⟨b, o + i * 2 + 1, none⟩ = some (.int .i64 (l.getD i (0, 0)).2)) := by
  obtain ⟨a', c', e, hx⟩ := h
  cases e
  refine ⟨rfl, ?_⟩
  by_cases hl : l = []
  · exact .inl hl
  · exact .inr (hx hl)
end Go.Proofs.Qxb6602369a
