import Derived.Test.Qxb6602424aA
namespace Go.Proofs.Qxb6602424a

theorem hexV_bd {c : Int} (h : Hex c) : 0 ≤ hexV c ∧ hexV c ≤ 15 := by
  unfold Hex at h; unfold hexV; split <;> (try split) <;> omega

/-- The dashes before byte k's digits. -/
def db (k : Nat) : Nat := if k < 4 then 0 else if k < 6 then 1 else if k < 8 then 2 else if k < 10 then 3 else 4
theorem db_or (k : Nat) : (k < 4 ∧ db k = 0) ∨ (4 ≤ k ∧ k < 6 ∧ db k = 1) ∨ (6 ≤ k ∧ k < 8 ∧ db k = 2) ∨ (8 ≤ k ∧ k < 10 ∧ db k = 3) ∨ (10 ≤ k ∧ db k = 4) := by
  unfold db; split <;> (try split) <;> (try split) <;> (try split) <;> omega
/-- The place of digit j. -/
def pos (j : Nat) : Nat := j + db (j / 2)
/-- How many digits stand before place i. -/
def dig (i : Nat) : Nat := if i ≤ 8 then i else if i ≤ 13 then i - 1 else if i ≤ 18 then i - 2 else if i ≤ 23 then i - 3 else i - 4
theorem dig_or (i : Nat) : (i ≤ 8 ∧ dig i = i) ∨ (8 < i ∧ i ≤ 13 ∧ dig i = i - 1) ∨ (13 < i ∧ i ≤ 18 ∧ dig i = i - 2) ∨ (18 < i ∧ i ≤ 23 ∧ dig i = i - 3) ∨ (23 < i ∧ dig i = i - 4) := by
  unfold dig; split <;> (try split) <;> (try split) <;> (try split) <;> omega
theorem dig_dash {i : Nat} (h : Dsh i) : dig (i + 1) = dig i := by
  have a := dig_or i; have b := dig_or (i + 1); unfold Dsh at h; omega
theorem dig_other {i : Nat} (h : ¬ Dsh i) : dig (i + 1) = dig i + 1 := by
  have a := dig_or i; have b := dig_or (i + 1); unfold Dsh at h; omega
theorem pos_dig {i : Nat} (h : ¬ Dsh i) : pos (dig i) = i := by
  unfold pos
  have a := dig_or i; have b := db_or (dig i / 2); unfold Dsh at h; omega
theorem dig_36 : dig 36 = 32 := rfl
theorem pos_lt {j : Nat} (h : j < 32) : pos j < 36 ∧ ¬ Dsh (pos j) ∧ dig (pos j) = j := by
  unfold pos
  have b := db_or (j / 2); have a := dig_or (j + db (j / 2))
  unfold Dsh
  omega
/-- Digit j's value. -/
def nib (f : Nat → Int) (j : Nat) : Int := hexV (f (pos j))
theorem nib_bd {n : Nat} {f : Nat → Int} (h : IsU n f) {j : Nat} (hj : j < 32) : 0 ≤ nib f j ∧ nib f j ≤ 15 := by
  obtain ⟨h1, h2, _⟩ := pos_lt hj
  exact hexV_bd ((h.2 _ h1).2 h2)
/-- Byte m when J digits have been read. -/
def part8 (f : Nat → Int) (J m : Nat) : Int := if 2 * m + 1 < J then nib f (2 * m) * 16 + nib f (2 * m + 1) else if 2 * m < J then nib f (2 * m) * 16 else 0
theorem part8_zero (f : Nat → Int) (m : Nat) : part8 f 0 m = 0 := by simp [part8]
theorem part8_even {f : Nat → Int} {m : Nat} : part8 f (2 * m) m = 0 ∧ ∀ x, part8 f (2 * m + 1) x = if x = m then nib f (2 * m) * 16 else part8 f (2 * m) x := by
  refine ⟨by unfold part8; rw [if_neg (by omega), if_neg (by omega)], fun x => ?_⟩
  by_cases e : x = m
  · subst e; rw [if_pos rfl]; unfold part8; rw [if_neg (by omega), if_pos (by omega)]
  · rw [if_neg e]; unfold part8
    by_cases h1 : 2 * x + 1 < 2 * m
    · rw [if_pos (by omega), if_pos h1]
    · rw [if_neg (by omega), if_neg (by omega), if_neg h1, if_neg (by omega)]
theorem part8_odd {f : Nat → Int} {m : Nat} : part8 f (2 * m + 1) m = nib f (2 * m) * 16 ∧ ∀ x, part8 f (2 * m + 2) x = if x = m then nib f (2 * m) * 16 + nib f (2 * m + 1) else part8 f (2 * m + 1) x := by
  refine ⟨by unfold part8; rw [if_neg (by omega), if_pos (by omega)], fun x => ?_⟩
  by_cases e : x = m
  · subst e; rw [if_pos rfl]; unfold part8; rw [if_pos (by omega)]
  · rw [if_neg e]; unfold part8
    by_cases h1 : 2 * x + 1 < 2 * m + 1
    · rw [if_pos (by omega), if_pos h1]
    · rw [if_neg (by omega), if_neg (by omega), if_neg h1, if_neg (by omega)]
/-- Byte m of the UUID. -/
def byt (f : Nat → Int) (m : Nat) : Int := nib f (2 * m) * 16 + nib f (2 * m + 1)
theorem part8_all {f : Nat → Int} {m : Nat} (h : m < 16) : part8 f 32 m = byt f m := by unfold part8; rw [if_pos (by omega)]; rfl

end Go.Proofs.Qxb6602424a
