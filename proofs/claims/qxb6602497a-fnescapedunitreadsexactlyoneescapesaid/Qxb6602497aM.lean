namespace Go.Proofs.Qxb6602497a

/-- A hexadecimal digit of either case. -/
def Hex (c : Int) : Prop := (48 ≤ c ∧ c ≤ 57) ∨ (97 ≤ c ∧ c ≤ 102) ∨ (65 ≤ c ∧ c ≤ 70)
/-- Its value, -1 for another byte. -/
def hexZ (c : Int) : Int := if 48 ≤ c ∧ c ≤ 57 then c - 48 else if 97 ≤ c ∧ c ≤ 102 then c - 87 else if 65 ≤ c ∧ c ≤ 70 then c - 55 else -1
theorem hexZ_or (c : Int) : (48 ≤ c ∧ c ≤ 57 ∧ hexZ c = c - 48) ∨ (97 ≤ c ∧ c ≤ 102 ∧ hexZ c = c - 87) ∨ (65 ≤ c ∧ c ≤ 70 ∧ hexZ c = c - 55) ∨ (¬ Hex c ∧ hexZ c = -1) := by
  unfold hexZ Hex; split <;> (try split) <;> (try split) <;> omega
def lo (k : Nat) : Int := if k < 10 then 48 + (k : Int) else 87 + (k : Int)
def up (k : Nat) : Int := if k < 10 then 48 + (k : Int) else 55 + (k : Int)
theorem lo_or (k : Nat) : (k < 10 ∧ lo k = 48 + (k : Int)) ∨ (10 ≤ k ∧ lo k = 87 + (k : Int)) := by unfold lo; split <;> omega
theorem up_or (k : Nat) : (k < 10 ∧ up k = 48 + (k : Int)) ∨ (10 ≤ k ∧ up k = 55 + (k : Int)) := by unfold up; split <;> omega
theorem lo_bd {k : Nat} (h : k < 16) : 48 ≤ lo k ∧ lo k ≤ 102 := by have := lo_or k; omega
theorem up_bd {k : Nat} (h : k < 16) : 48 ≤ up k ∧ up k ≤ 70 := by have := up_or k; omega
theorem hexZ_at {c : Int} {k : Nat} (h : k < 16) (e : c = lo k ∨ c = up k) : hexZ c = (k : Int) := by
  have a := lo_or k; have b := up_or k; have d := hexZ_or c; unfold Hex at d; omega
theorem hexZ_none {c : Int} (h : ∀ j, j < 16 → c ≠ lo j ∧ c ≠ up j) : hexZ c = -1 := by
  rcases hexZ_or c with ⟨h1, h2, _⟩ | ⟨h1, h2, _⟩ | ⟨h1, h2, _⟩ | ⟨_, e⟩
  · have a := (h (c - 48).toNat (by omega)).1; have b := lo_or (c - 48).toNat; omega
  · have a := (h (c - 87).toNat (by omega)).1; have b := lo_or (c - 87).toNat; omega
  · have a := (h (c - 55).toNat (by omega)).2; have b := up_or (c - 55).toNat; omega
  · exact e
theorem hexZ_yes {c : Int} (h : Hex c) : 0 ≤ hexZ c ∧ hexZ c ≤ 15 := by
  have := hexZ_or c; unfold Hex at *; omega
theorem hexZ_no {c : Int} (h : ¬ Hex c) : hexZ c = -1 := by
  have := hexZ_or c; unfold Hex at *; omega

/-- An escape of one unit stands at k. -/
def Esc (D : Nat → Int) (k : Nat) : Prop := D k = 92 ∧ D (k + 1) = 117 ∧ ∀ j, j < 4 → Hex (D (k + 2 + j))
/-- The value of the first m digits from k on. -/
def uv (D : Nat → Int) (k : Nat) : Nat → Int
  | 0 => 0
  | m + 1 => uv D k m * 16 + hexZ (D (k + m))
theorem uv_bd {D : Nat → Int} {k : Nat} (h : ∀ j, j < 4 → Hex (D (k + j))) : (∀ j, j < 4 → 0 ≤ hexZ (D (k + j)) ∧ hexZ (D (k + j)) ≤ 15) ∧ 0 ≤ uv D k 1 ∧ uv D k 1 ≤ 15 ∧ 0 ≤ uv D k 2 ∧ uv D k 2 ≤ 255 ∧ 0 ≤ uv D k 3 ∧ uv D k 3 ≤ 4095 ∧ 0 ≤ uv D k 4 ∧ uv D k 4 ≤ 65535 := by
  have a := fun j hj => hexZ_yes (h j hj)
  have a0 := a 0 (by omega); have a1 := a 1 (by omega); have a2 := a 2 (by omega); have a3 := a 3 (by omega)
  refine ⟨a, ?_⟩
  simp only [uv]
  omega
/-- Nibble k of the unit is digit k. -/
theorem uv_nib {D : Nat → Int} {p : Nat} (h : ∀ j, j < 4 → Hex (D (p + j))) {j : Nat} (hj : j < 4) : uv D p 4 / 2 ^ (12 - 4 * j) % 16 = hexZ (D (p + j)) := by
  have a := fun j hj => hexZ_yes (h j hj)
  have a0 := a 0 (by omega); have a1 := a 1 (by omega); have a2 := a 2 (by omega); have a3 := a 3 (by omega)
  simp only [Nat.add_zero] at a0
  simp only [uv]
  rcases (by omega : j = 0 ∨ j = 1 ∨ j = 2 ∨ j = 3) with rfl | rfl | rfl | rfl <;> simp <;> omega

end Go.Proofs.Qxb6602497a
