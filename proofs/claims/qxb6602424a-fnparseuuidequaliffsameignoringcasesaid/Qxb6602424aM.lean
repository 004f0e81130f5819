namespace Go.Proofs.Qxb6602424a

/-! Plain mathematics of the UUID's text form. -/

/-- A hexadecimal digit of either case. -/
def Hex (c : Int) : Prop := (48 ≤ c ∧ c ≤ 57) ∨ (97 ≤ c ∧ c ≤ 102) ∨ (65 ≤ c ∧ c ≤ 70)
theorem Hex.ne {c : Int} (h : Hex c) : c ≠ 45 := by unfold Hex at h; omega

/-- The places of the dashes. -/
def Dsh (i : Nat) : Prop := i = 8 ∨ i = 13 ∨ i = 18 ∨ i = 23

/-- What isUUID accepts: n bytes, f their values. -/
def IsU (n : Nat) (f : Nat → Int) : Prop := n = 36 ∧ ∀ i, i < 36 → (Dsh i → f i = 45) ∧ (¬ Dsh i → Hex (f i))

/-- The dashes among the first k bytes. -/
def dc (f : Nat → Int) : Nat → Nat
  | 0 => 0
  | k + 1 => dc f k + if f k = 45 then 1 else 0
/-- The bytes of group j among the first k. -/
def ln (f : Nat → Int) (j : Nat) : Nat → Nat
  | 0 => 0
  | k + 1 => ln f j k + if f k ≠ 45 ∧ dc f k = j then 1 else 0

theorem dc_dash {f : Nat → Int} {k : Nat} (h : f k = 45) : dc f (k + 1) = dc f k + 1 := by simp [dc, h]
theorem dc_other {f : Nat → Int} {k : Nat} (h : f k ≠ 45) : dc f (k + 1) = dc f k := by simp [dc, h]
theorem ln_dash {f : Nat → Int} {k : Nat} (j : Nat) (h : f k = 45) : ln f j (k + 1) = ln f j k := by simp [ln, h]
theorem ln_same {f : Nat → Int} {k : Nat} {j : Nat} (h : f k ≠ 45) (hj : dc f k = j) : ln f j (k + 1) = ln f j k + 1 := by simp [ln, h, hj]
theorem ln_other {f : Nat → Int} {k : Nat} {j : Nat} (hj : dc f k ≠ j) : ln f j (k + 1) = ln f j k := by simp [ln, hj]

theorem dc_mono {f : Nat → Int} {a b : Nat} (h : a ≤ b) : dc f a ≤ dc f b := by
  induction b with
  | zero => have : a = 0 := by omega
            subst this; exact Nat.le_refl _
  | succ b ih =>
    by_cases e : a = b + 1
    · subst e; exact Nat.le_refl _
    · have := ih (by omega)
      simp only [dc]; omega
theorem ln_closed {f : Nat → Int} {j a b : Nat} (h : a ≤ b) (hj : j < dc f a) : ln f j b = ln f j a := by
  induction b with
  | zero => have : a = 0 := by omega
            subst this; rfl
  | succ b ih =>
    by_cases e : a = b + 1
    · subst e; rfl
    · have h1 := ih (by omega)
      have h2 := dc_mono (f := f) (show a ≤ b by omega)
      rw [ln_other (by omega), h1]
theorem ln_zero {f : Nat → Int} {j k : Nat} (h : dc f k < j) : ln f j k = 0 := by
  induction k with
  | zero => rfl
  | succ k ih =>
    have h1 : dc f k ≤ dc f (k + 1) := dc_mono (by omega)
    rw [ln_other (by omega)]
    exact ih (by omega)
theorem ln_le (f : Nat → Int) (j k : Nat) : ln f j k ≤ k := by
  induction k with
  | zero => exact Nat.le_refl _
  | succ k ih => simp only [ln]; split <;> omega
theorem ln_sum {f : Nat → Int} {k : Nat} (h : dc f k ≤ 4) : k = dc f k + ln f 0 k + ln f 1 k + ln f 2 k + ln f 3 k + ln f 4 k := by
  induction k with
  | zero => rfl
  | succ k ih =>
    have h1 : dc f k ≤ dc f (k + 1) := dc_mono (by omega)
    have h2 := ih (by omega)
    by_cases hd : f k = 45
    · rw [dc_dash hd, ln_dash 0 hd, ln_dash 1 hd, ln_dash 2 hd, ln_dash 3 hd, ln_dash 4 hd]; omega
    · rw [dc_other hd]
      rcases (by omega : dc f k = 0 ∨ dc f k = 1 ∨ dc f k = 2 ∨ dc f k = 3 ∨ dc f k = 4) with e | e | e | e | e
      · rw [ln_same hd e, ln_other (j := 1) (by omega), ln_other (j := 2) (by omega), ln_other (j := 3) (by omega), ln_other (j := 4) (by omega)]; omega
      · rw [ln_other (j := 0) (by omega), ln_same hd e, ln_other (j := 2) (by omega), ln_other (j := 3) (by omega), ln_other (j := 4) (by omega)]; omega
      · rw [ln_other (j := 0) (by omega), ln_other (j := 1) (by omega), ln_same hd e, ln_other (j := 3) (by omega), ln_other (j := 4) (by omega)]; omega
      · rw [ln_other (j := 0) (by omega), ln_other (j := 1) (by omega), ln_other (j := 2) (by omega), ln_same hd e, ln_other (j := 4) (by omega)]; omega
      · rw [ln_other (j := 0) (by omega), ln_other (j := 1) (by omega), ln_other (j := 2) (by omega), ln_other (j := 3) (by omega), ln_same hd e]; omega
theorem dc_reach {f : Nat → Int} {j k : Nat} (h : j < dc f k) : ∃ i, i < k ∧ f i = 45 ∧ dc f i = j := by
  induction k with
  | zero => simp [dc] at h
  | succ k ih =>
    by_cases hd : f k = 45
    · rw [dc_dash hd] at h
      by_cases e : dc f k = j
      · exact ⟨k, by omega, hd, e⟩
      · obtain ⟨i, h1, h2⟩ := ih (by omega)
        exact ⟨i, by omega, h2⟩
    · rw [dc_other hd] at h
      obtain ⟨i, h1, h2⟩ := ih h
      exact ⟨i, by omega, h2⟩

/-- What the group model asks at the text's end. -/
def Grp (n : Nat) (f : Nat → Int) : Prop := (∀ i, i < n → f i = 45 ∨ Hex (f i)) ∧ dc f n = 4 ∧ ln f 0 n = 8 ∧ ln f 1 n = 4 ∧ ln f 2 n = 4 ∧ ln f 3 n = 4 ∧ ln f 4 n = 12

/-- A run of other bytes. -/
theorem block {f : Nat → Int} {a : Nat} : ∀ m, (∀ i, a ≤ i → i < a + m → f i ≠ 45) → dc f (a + m) = dc f a ∧ ∀ j, ln f j (a + m) = ln f j a + if dc f a = j then m else 0
  | 0, _ => ⟨rfl, fun j => by simp⟩
  | m + 1, h => by
    obtain ⟨h1, h2⟩ := block m (fun i h1 h2 => h i h1 (by omega))
    have hne := h (a + m) (by omega) (by omega)
    refine ⟨by rw [← Nat.add_assoc, dc_other hne, h1], fun j => ?_⟩
    rw [← Nat.add_assoc]
    by_cases e : dc f a = j
    · rw [ln_same hne (by rw [h1, e]), h2 j, if_pos e, if_pos e]; omega
    · rw [ln_other (by rw [h1]; exact e), h2 j, if_neg e, if_neg e]

theorem grp_iff (n : Nat) (f : Nat → Int) : Grp n f ↔ IsU n f := by
  constructor
  · rintro ⟨hall, h4, l0, l1, l2, l3, l4⟩
    have hn : n = 36 := by have := ln_sum (f := f) (k := n) (by omega); omega
    have hpos : ∀ i, i < n → f i = 45 → (dc f i = 0 ∧ i = 8) ∨ (dc f i = 1 ∧ i = 13) ∨ (dc f i = 2 ∧ i = 18) ∨ (dc f i = 3 ∧ i = 23) := by
      intro i hi hd
      have e1 := dc_dash hd
      have hm : dc f (i + 1) ≤ dc f n := dc_mono (by omega)
      have hs := ln_sum (f := f) (k := i + 1) (by omega)
      rcases (by omega : dc f i = 0 ∨ dc f i = 1 ∨ dc f i = 2 ∨ dc f i = 3) with e | e | e | e
      · have c0 := ln_closed (f := f) (j := 0) (show i + 1 ≤ n by omega) (by omega)
        have z1 := ln_zero (f := f) (j := 1) (k := i) (by omega); have z2 := ln_zero (f := f) (j := 2) (k := i) (by omega)
        have z3 := ln_zero (f := f) (j := 3) (k := i) (by omega); have z4 := ln_zero (f := f) (j := 4) (k := i) (by omega)
        rw [ln_dash 1 hd, ln_dash 2 hd, ln_dash 3 hd, ln_dash 4 hd] at hs
        omega
      · have c0 := ln_closed (f := f) (j := 0) (show i + 1 ≤ n by omega) (by omega)
        have c1 := ln_closed (f := f) (j := 1) (show i + 1 ≤ n by omega) (by omega)
        have z2 := ln_zero (f := f) (j := 2) (k := i) (by omega)
        have z3 := ln_zero (f := f) (j := 3) (k := i) (by omega); have z4 := ln_zero (f := f) (j := 4) (k := i) (by omega)
        rw [ln_dash 2 hd, ln_dash 3 hd, ln_dash 4 hd] at hs
        omega
      · have c0 := ln_closed (f := f) (j := 0) (show i + 1 ≤ n by omega) (by omega)
        have c1 := ln_closed (f := f) (j := 1) (show i + 1 ≤ n by omega) (by omega)
        have c2 := ln_closed (f := f) (j := 2) (show i + 1 ≤ n by omega) (by omega)
        have z3 := ln_zero (f := f) (j := 3) (k := i) (by omega); have z4 := ln_zero (f := f) (j := 4) (k := i) (by omega)
        rw [ln_dash 3 hd, ln_dash 4 hd] at hs
        omega
      · have c0 := ln_closed (f := f) (j := 0) (show i + 1 ≤ n by omega) (by omega)
        have c1 := ln_closed (f := f) (j := 1) (show i + 1 ≤ n by omega) (by omega)
        have c2 := ln_closed (f := f) (j := 2) (show i + 1 ≤ n by omega) (by omega)
        have c3 := ln_closed (f := f) (j := 3) (show i + 1 ≤ n by omega) (by omega)
        have z4 := ln_zero (f := f) (j := 4) (k := i) (by omega)
        rw [ln_dash 4 hd] at hs
        omega
    refine ⟨hn, fun i hi => ⟨fun hd => ?_, fun hnd => ?_⟩⟩
    · have hat : ∀ j, j < 4 → ∃ p, p < n ∧ f p = 45 ∧ dc f p = j := fun j hj => dc_reach (by omega)
      rcases hd with rfl | rfl | rfl | rfl
      · obtain ⟨p, h1, h2, h3⟩ := hat 0 (by omega)
        have := hpos p h1 h2
        obtain rfl : p = 8 := by omega
        exact h2
      · obtain ⟨p, h1, h2, h3⟩ := hat 1 (by omega)
        have := hpos p h1 h2
        obtain rfl : p = 13 := by omega
        exact h2
      · obtain ⟨p, h1, h2, h3⟩ := hat 2 (by omega)
        have := hpos p h1 h2
        obtain rfl : p = 18 := by omega
        exact h2
      · obtain ⟨p, h1, h2, h3⟩ := hat 3 (by omega)
        have := hpos p h1 h2
        obtain rfl : p = 23 := by omega
        exact h2
    · rcases hall i (by omega) with h | h
      · exact absurd (by have := hpos i (by omega) h; unfold Dsh; omega) hnd
      · exact h
  · rintro ⟨rfl, h⟩
    have hd : ∀ i, i < 36 → Dsh i → f i = 45 := fun i hi => (h i hi).1
    have ho : ∀ i, i < 36 → ¬ Dsh i → f i ≠ 45 := fun i hi hn => ((h i hi).2 hn).ne
    have b0 := block (f := f) (a := 0) 8 (fun i h1 h2 => ho i (by omega) (by unfold Dsh; omega))
    have d8 := hd 8 (by omega) (by unfold Dsh; omega)
    have b1 := block (f := f) (a := 9) 4 (fun i h1 h2 => ho i (by omega) (by unfold Dsh; omega))
    have d13 := hd 13 (by omega) (by unfold Dsh; omega)
    have b2 := block (f := f) (a := 14) 4 (fun i h1 h2 => ho i (by omega) (by unfold Dsh; omega))
    have d18 := hd 18 (by omega) (by unfold Dsh; omega)
    have b3 := block (f := f) (a := 19) 4 (fun i h1 h2 => ho i (by omega) (by unfold Dsh; omega))
    have d23 := hd 23 (by omega) (by unfold Dsh; omega)
    have b4 := block (f := f) (a := 24) 12 (fun i h1 h2 => ho i (by omega) (by unfold Dsh; omega))
    have e8 : dc f 8 = 0 := b0.1
    have e9 : dc f 9 = 1 := by have : dc f 9 = dc f 8 + 1 := dc_dash d8; omega
    have e13 : dc f 13 = 1 := by have : dc f 13 = dc f 9 := b1.1; omega
    have e14 : dc f 14 = 2 := by have : dc f 14 = dc f 13 + 1 := dc_dash d13; omega
    have e18 : dc f 18 = 2 := by have : dc f 18 = dc f 14 := b2.1; omega
    have e19 : dc f 19 = 3 := by have : dc f 19 = dc f 18 + 1 := dc_dash d18; omega
    have e23 : dc f 23 = 3 := by have : dc f 23 = dc f 19 := b3.1; omega
    have e24 : dc f 24 = 4 := by have : dc f 24 = dc f 23 + 1 := dc_dash d23; omega
    have e36 : dc f 36 = 4 := by have : dc f 36 = dc f 24 := b4.1; omega
    have L : ∀ j, ln f j 36 = (if (0 : Nat) = j then 8 else 0) + (if (1 : Nat) = j then 4 else 0) + (if (2 : Nat) = j then 4 else 0) + (if (3 : Nat) = j then 4 else 0) + (if (4 : Nat) = j then 12 else 0) := by
      intro j
      have a1 : ln f j 8 = 0 + if (0 : Nat) = j then 8 else 0 := b0.2 j
      have a2 : ln f j 9 = ln f j 8 := ln_dash j d8
      have a3 : ln f j 13 = ln f j 9 + if dc f 9 = j then 4 else 0 := b1.2 j
      have a4 : ln f j 14 = ln f j 13 := ln_dash j d13
      have a5 : ln f j 18 = ln f j 14 + if dc f 14 = j then 4 else 0 := b2.2 j
      have a6 : ln f j 19 = ln f j 18 := ln_dash j d18
      have a7 : ln f j 23 = ln f j 19 + if dc f 19 = j then 4 else 0 := b3.2 j
      have a8 : ln f j 24 = ln f j 23 := ln_dash j d23
      have a9 : ln f j 36 = ln f j 24 + if dc f 24 = j then 12 else 0 := b4.2 j
      rw [e9] at a3; rw [e14] at a5; rw [e19] at a7; rw [e24] at a9
      omega
    refine ⟨fun i hi => ?_, e36, by rw [L]; rfl, by rw [L]; rfl, by rw [L]; rfl, by rw [L]; rfl, by rw [L]; rfl⟩
    by_cases hdi : Dsh i
    · exact .inl ((h i hi).1 hdi)
    · exact .inr ((h i hi).2 hdi)

end Go.Proofs.Qxb6602424a
