import Derived.Test.Qxb6602369aL
import Derived.Deep.Slices
import Derived.Deep.Strs
import Derived.ChangeSame
import Derived.ChangeArms
namespace Go.Proofs.Qxb6602369a
open Go.RowKit Go.ChangeShapes Go.WideShapes

/-! The argument, opened: what came in as a []Node reads as a list of nodes. -/

theorem cells3 : Try.prog.cellsOf 3 = 1 := by kernel_rfl
theorem cells4 : Try.prog.cellsOf 4 = 1 := by kernel_rfl
theorem cells37 : Try.prog.cellsOf 37 = 1 := by kernel_rfl
theorem cells38 : Try.prog.cellsOf 38 = 1 := by kernel_rfl
theorem cells51 : Try.prog.cellsOf 51 = 2 := by kernel_rfl
theorem cells40 : Try.prog.cellsOf 40 = 3 := by kernel_rfl

theorem getD_range {α : Type} {n i : Nat} (q : Nat → α) (d : α) (hi : i < n) : ((List.range n).map q).getD i d = q i := by
  simp [List.getD, hi]
theorem plain_at {w : World} {a : Addr} {v : Value} (h : w.cell? (a.add 0) = some v) : ∃ b o, a = ⟨b, o, none⟩ := by
  obtain ⟨b, off, spot⟩ := a
  have hspot : spot = none := by simpa [Addr.add] using World.cell?_spot h
  subst hspot
  exact ⟨b, off, rfl⟩

theorem len1 {α : Type} {l : List α} (h : l.length = 1) : ∃ a, l = [a] := by
  match l, h with
  | [a], _ => exact ⟨a, rfl⟩
theorem len2 {α : Type} {l : List α} (h : l.length = 2) : ∃ a b, l = [a, b] := by
  match l, h with
  | [a, b], _ => exact ⟨a, b, rfl⟩
theorem len3 {α : Type} {l : List α} (h : l.length = 3) : ∃ a b c, l = [a, b, c] := by
  match l, h with
  | [a, b, c], _ => exact ⟨a, b, c, rfl⟩

section
variable {H : Type} {enc : TypeId × Value → H} {w : World} {base : Nat} {spare : Nat → Bool} {held : Bool} {fuel : Nat} {v : Value} {x : DataW H × List MemPlace}
theorem open_refs (h : DataW.trod enc Try.prog w base spare held fuel 37 [v] = some x) : ∃ l, RdR 0 w v l := by
  rcases Deep.open_slice Try.underlying37 h with ⟨hcs, _⟩ | ⟨a, len, cap, m, n, D, Pl, hcs, hb, hl, hm, hmm, _, hel⟩
  · cases hcs; exact ⟨[], RdR.nil _ _ _ _⟩
  · obtain rfl : v = .slice (some a) len cap := by simpa using hcs
    have hlm : len ≤ m := by rw [hmm]; split <;> omega
    have each : ∀ i, i < len → ∃ q : Int × Int, w.cell? (a.add (i * 2)) = some (.int .i64 q.1) ∧ w.cell? (a.add (i * 2 + 1)) = some (.int .i64 q.2) := by
      intro i hi
      obtain ⟨cs', h1, h2⟩ := hel i (by omega)
      rw [cells51] at h1
      obtain ⟨_, hlen, hcell⟩ := World.cells?_some h1
      obtain ⟨y0, y1, n', _, _, g0, g1⟩ := trod_struct2 Try.underlying51 h2
      obtain ⟨v0, v1, rfl⟩ := len2 hlen
      obtain ⟨z0, e0, _⟩ := DataW.trod_int Try.underlying3 g0
      obtain ⟨z1, e1, _⟩ := DataW.trod_int Try.underlying3 g1
      simp [cells3] at e0 e1
      subst e0 e1
      have k0 := hcell 0 (by omega)
      have k1 := hcell 1 (by omega)
      rw [Deep.add_add] at k0 k1
      exact ⟨(z0, z1), by simpa using k0, by simpa using k1⟩
    obtain ⟨q, hq⟩ := Deep.choose_lt each
    refine ⟨(List.range len).map q, some a, cap, by simp, fun hne => ?_⟩
    have hpos : 0 < len := by
      rcases Nat.eq_zero_or_pos len with e | e
      · subst e; simp at hne
      · exact e
    have h0 := (hq 0 hpos).1
    obtain ⟨b, o, rfl⟩ := plain_at (by simpa using h0)
    refine ⟨b, o, rfl, Nat.zero_le _, World.block_lt_of_cell? _ _ h0, fun i hi => ?_⟩
    have hi' : i < len := by simpa using hi
    rw [getD_range _ _ hi']
    obtain ⟨k0, k1⟩ := hq i hi'
    rw [add_plain] at k0 k1
    exact ⟨k0, k1⟩
theorem open_parts (h : DataW.trod enc Try.prog w base spare held fuel 38 [v] = some x) : ∃ l, RdP 0 w v l := by
  rcases Deep.open_slice Try.underlying38 h with ⟨hcs, _⟩ | ⟨a, len, cap, m, n, D, Pl, hcs, hb, hl, hm, hmm, _, hel⟩
  · cases hcs; exact ⟨[], RdP.nil _ _ _ _⟩
  · obtain rfl : v = .slice (some a) len cap := by simpa using hcs
    have hlm : len ≤ m := by rw [hmm]; split <;> omega
    have each : ∀ i, i < len → ∃ q : List (Int × Int), ∃ u, w.cell? (a.add i) = some u ∧ RdR 0 w u q := by
      intro i hi
      obtain ⟨cs', h1, h2⟩ := hel i (by omega)
      rw [cells37] at h1
      obtain ⟨_, hlen, hcell⟩ := World.cells?_some h1
      obtain ⟨v0, rfl⟩ := len1 hlen
      obtain ⟨l, hr⟩ := open_refs h2
      have k0 := hcell 0 (by omega)
      rw [Deep.add_add] at k0
      exact ⟨l, v0, by simpa using k0, hr⟩
    obtain ⟨q, hq⟩ := Deep.choose_lt each
    refine ⟨(List.range len).map q, some a, cap, by simp, fun hne => ?_⟩
    have hpos : 0 < len := by
      rcases Nat.eq_zero_or_pos len with e | e
      · subst e; simp at hne
      · exact e
    obtain ⟨u0, h0, _⟩ := hq 0 hpos
    obtain ⟨b, o, rfl⟩ := plain_at h0
    refine ⟨b, o, rfl, Nat.zero_le _, World.block_lt_of_cell? _ _ h0, fun i hi => ?_⟩
    have hi' : i < len := by simpa using hi
    rw [getD_range _ _ hi']
    obtain ⟨u, k0, k1⟩ := hq i hi'
    rw [add_plain] at k0
    exact ⟨u, k0, k1⟩
theorem open_nodes (h : DataW.trod enc Try.prog w base spare held fuel 29 [v] = some x) : ∃ l, RdN 0 w v l := by
  rcases Deep.open_slice Try.underlying29 h with ⟨hcs, _⟩ | ⟨a, len, cap, m, n, D, Pl, hcs, hb, hl, hm, hmm, _, hel⟩
  · cases hcs; exact ⟨[], _, _, rfl, fun h => absurd rfl h⟩
  · obtain rfl : v = .slice (some a) len cap := by simpa using hcs
    have hlm : len ≤ m := by rw [hmm]; split <;> omega
    have each : ∀ i, i < len → ∃ q : NodeD, ∃ u1 u2, w.cell? (a.add (i * 3)) = some u1 ∧ w.cell? (a.add (i * 3 + 1)) = some u2 ∧ w.cell? (a.add (i * 3 + 2)) = some (.bool q.lead) ∧ RdR 0 w u1 q.needs ∧ RdP 0 w u2 q.parts := by
      intro i hi
      obtain ⟨cs', h1, h2⟩ := hel i (by omega)
      rw [cells40] at h1
      obtain ⟨_, hlen, hcell⟩ := World.cells?_some h1
      obtain ⟨y0, y1, y2, n', _, _, g0, g1, g2⟩ := Deep.trod_struct3 Try.underlying40 h2
      obtain ⟨v0, v1, v2, rfl⟩ := len3 hlen
      simp [cells37, cells38] at g0 g1
      obtain ⟨l0, r0⟩ := open_refs g0
      obtain ⟨l1, r1⟩ := open_parts g1
      obtain ⟨z2, e2, _⟩ := DataW.trod_bool Try.underlying4 g2
      simp [cells4] at e2
      subst e2
      have k0 := hcell 0 (by omega)
      have k1 := hcell 1 (by omega)
      have k2 := hcell 2 (by omega)
      rw [Deep.add_add] at k0 k1 k2
      exact ⟨⟨l0, l1, z2⟩, v0, v1, by simpa using k0, by simpa using k1, by simpa using k2, r0, r1⟩
    have : Inhabited NodeD := ⟨nodeZ⟩
    obtain ⟨q, hq⟩ := Deep.choose_lt each
    refine ⟨(List.range len).map q, some a, cap, by simp, fun hne => ?_⟩
    have hpos : 0 < len := by
      rcases Nat.eq_zero_or_pos len with e | e
      · subst e; simp at hne
      · exact e
    obtain ⟨u1, u2, h0, _⟩ := hq 0 hpos
    obtain ⟨b, o, rfl⟩ := plain_at (by simpa using h0)
    refine ⟨b, o, rfl, Nat.zero_le _, World.block_lt_of_cell? _ _ h0, fun i hi => ?_⟩
    have hi' : i < len := by simpa using hi
    rw [getD_range _ _ hi']
    obtain ⟨u1, u2, k0, k1, k2, r0, r1⟩ := hq i hi'
    rw [add_plain] at k0 k1 k2
    exact ⟨u1, u2, k0, k1, k2, r0, r1⟩
end
end Go.Proofs.Qxb6602369a
