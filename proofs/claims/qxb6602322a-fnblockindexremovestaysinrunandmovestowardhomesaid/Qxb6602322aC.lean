import Derived.Test.Qxb6602322aA
import Derived.Test.Qxb6602322aM
namespace Go.Proofs.Qxb6602322a
open Go.RowKit

/-- What 'validIndex' asks. -/
def ValidP (N : Nat) (I S : Nat → Int) (sh n seed : Int) : Prop :=
  ∃ lg, PowT lg N ∧ sh = 64 - (lg : Int) ∧ cntFull S N ≠ N ∧ (cntFull S N : Int) = n ∧ ∀ k, k < N → S k ≠ 0 → findFrom N I S (I k) N (homeZ sh seed (I k)).toNat = (k : Int)

/-- The call returned a bool, and it is true just where p holds. -/
def RetB (e : Ending) (p : Prop) : Prop := ∃ v : Bool, e = .returned (.bool v) ∧ (v = true ↔ p)
theorem RetB.no {p : Prop} (h : ¬ p) : RetB (.returned (.bool false)) p := ⟨false, rfl, by simp [h]⟩
theorem RetB.yes {p : Prop} (h : p) : RetB (.returned (.bool true)) p := ⟨true, rfl, by simp [h]⟩

theorem pow_inj {a b : Nat} (h : 2 ^ a = 2 ^ b) : a = b := (Nat.pow_right_inj (by decide)).1 h

theorem not_pow {N g : Nat} {I S : Nat → Int} {sh n seed : Int} (HG : ∀ g', g' < g → 2 ^ g' < N) (h : N ≤ 2 ^ g) (hne : ¬ (2 ^ g = N)) : ¬ ValidP N I S sh n seed := by
  rintro ⟨lg, ⟨_, rfl⟩, _⟩
  by_cases hl : lg < g
  · have := HG lg hl; omega
  · have : 2 ^ g ≤ 2 ^ lg := Nat.pow_le_pow_right (by decide) (by omega)
    omega

set_option maxHeartbeats 1000000 in
theorem valid_any (N b0 o0 c0 b1 o1 c1 : Nat) (I S : Nat → Int) (sh n seed : Int) (w : World) (hpos : 0 < N) (hle : N ≤ 4096)
    (hI : ∀ i, i < N → w.cell? ⟨b0, o0 + i, none⟩ = some (.int .u64 (I i))) (hS : ∀ i, i < N → w.cell? ⟨b1, o1 + i, none⟩ = some (.int .i64 (S i)))
    (hb0 : b0 < w.heap.size) (hb1 : b1 < w.heap.size) :
    Calls Try.prog 23 #[.slice (some ⟨b0, o0, none⟩) N c0, .slice (some ⟨b1, o1, none⟩) N c1, .int .i64 sh, .int .i64 n, .int .u64 seed] w fun e w' =>
      RetB e (ValidP N I S sh n seed) ∧ Below w.heap.size w w' := by
  have h0 : ((N : Int) == 0) = false := beq_eq_false_iff_ne.2 (by omega)
  have h1 : decide ((4096 : Int) < (N : Int)) = false := decide_eq_false (by omega)
  go_enter Try.func23, Try.ntmps23
  go_wp2
  go_loop [12] (fun l => ∃ g : Nat, g ≤ 12 ∧ l = .int .i64 g ∧ Hid (∀ g', g' < g → 2 ^ g' < N)) (fun l => 12 - (intOf l).toNat)
  case atStart => exact ⟨0, Nat.zero_le _, rfl, fun _ h => absurd h (by omega)⟩
  case round =>
    obtain ⟨g, hg, rfl, HG⟩ := hrel
    obtain ⟨P, hP⟩ : ∃ P : Nat, 2 ^ g = P := ⟨_, rfl⟩
    have hPI : (2 : Int) ^ g = (P : Int) := by rw [← hP]; simp
    have hPle : P ≤ 4096 := by rw [← hP]; exact Nat.le_trans (Nat.pow_le_pow_right (by decide) hg) (by decide)
    have hPpos : 0 < P := by rw [← hP]; exact Nat.two_pow_pos g
    have HP : Hid (2 ^ g = P) := hP
    clear hP
    by_cases hc : g < 12 ∧ P < N
    · obtain ⟨hg12, hPN⟩ := hc
      go_wp2
      go_round
      case rel =>
        refine ⟨g + 1, by omega, by go_num, fun g' hg' => ?_⟩
        by_cases e : g' = g
        · rw [e, HP.out]; exact hPN
        · exact HG.out g' (by omega)
      case measure => simp [intOf]; omega
    · have hNP : N ≤ P := by
        by_cases h12 : g = 12
        · subst h12; have := HP.out; omega
        · omega
      clear hc
      by_cases hNe : P = N
      · subst hNe
        have hpt : PowT g P := ⟨hg, HP.out.symm⟩
        clear HG HP
        have hbne : ((P : Int) != (P : Int)) = false := by simp
        by_cases hsh : sh = 64 - (g : Int)
        · subst hsh
          by_cases hg12 : g < 12
          all_goals
            go_wp2
            go_loop [13, 14] (fun fl k => ∃ j : Nat, j ≤ P ∧ k = .int .i64 j ∧ fl = .int .i64 (cntFull S j)) (fun _ k => P - (intOf k).toNat)
            case atStart => exact ⟨0, Nat.zero_le _, rfl, rfl⟩
            case round =>
              obtain ⟨j, hj, rfl, rfl⟩ := hrel
              have hcl := cntFull_le S j
              by_cases hlt : j < P
              · have hSj := hS j hlt
                by_cases hs0 : S j = 0
                · have hb : (S j != 0) = false := by simp [hs0]
                  have HC : Hid (cntFull S (j + 1) = cntFull S j) := by show _ = _; simp [cntFull, hs0]
                  clear hs0
                  go_wp2
                  go_round
                  case rel => exact ⟨j + 1, by omega, by go_num, by rw [HC.out]⟩
                  case measure => simp [intOf]; omega
                · have hb : (S j != 0) = true := by rw [bne_iff_ne]; exact hs0
                  have HC : Hid (cntFull S (j + 1) = cntFull S j + 1) := by show _ = _; simp [cntFull, hs0]
                  clear hs0
                  go_wp2
                  go_round
                  case rel => exact ⟨j + 1, by omega, by go_num, by rw [HC.out]; go_num⟩
                  case measure => simp [intOf]; omega
              · obtain rfl : j = P := by omega
                clear hlt
                obtain ⟨C, hC⟩ : ∃ C, cntFull S j = C := ⟨_, rfl⟩
                rw [hC] at hcl ⊢
                have HC : Hid (cntFull S j = C) := hC
                clear hC
                by_cases hfull : C = j
                · have hb : ((C : Int) == (j : Int)) = true := by simp [hfull]
                  have HNV : Hid (¬ ValidP j I S (64 - (g : Int)) n seed) := by
                    rintro ⟨lg, _, _, h3, _⟩
                    rw [HC.out] at h3
                    exact h3 hfull
                  clear hfull
                  go_wp2
                  go_ret
                  exact ⟨RetB.no HNV.out, Below.refl _ _⟩
                · have hb : ((C : Int) == (j : Int)) = false := beq_eq_false_iff_ne.2 (by omega)
                  by_cases hn : (C : Int) = n
                  · subst hn
                    have hb2 : ((C : Int) != (C : Int)) = false := by simp
                    go_wp2
                    go_loopw [15] (fun k wr => ∃ i : Nat, i ≤ j ∧ k = .int .i64 i ∧ Below w.heap.size w wr ∧ Hid (∀ i', i' < i → S i' ≠ 0 → findFrom j I S (I i') j (homeZ (64 - (g : Int)) seed (I i')).toNat = (i' : Int))) (fun k _ => j - (intOf k).toNat)
                    case atStart => exact ⟨0, Nat.zero_le _, rfl, Below.refl _ _, fun _ h => absurd h (by omega)⟩
                    case round =>
                      obtain ⟨i, hi, rfl, hbw, HA⟩ := hrel
                      have hI' : ∀ i, i < j → wr.cell? ⟨b0, o0 + i, none⟩ = some (.int .u64 (I i)) := fun i hi => (hbw.cell (p := ⟨b0, o0 + i, none⟩) hb0).trans (hI i hi)
                      have hS' : ∀ i, i < j → wr.cell? ⟨b1, o1 + i, none⟩ = some (.int .i64 (S i)) := fun i hi => (hbw.cell (p := ⟨b1, o1 + i, none⟩) hb1).trans (hS i hi)
                      have hsz := hbw.size
                      by_cases hlt : i < j
                      · have hSi := hS' i hlt
                        have hIi := hI' i hlt
                        have hF := find_any g j b0 o0 c0 b1 o1 c1 I S seed (I i) wr hpt hI' hS' (by omega) (by omega)
                        clear hI' hS' hI hS
                        obtain ⟨r, hr⟩ : ∃ r, findFrom j I S (I i) j (homeZ (64 - (g : Int)) seed (I i)).toNat = r := ⟨_, rfl⟩
                        rw [hr] at hF
                        have HR : Hid (findFrom j I S (I i) j (homeZ (64 - (g : Int)) seed (I i)).toNat = r) := hr
                        clear hr
                        by_cases hs0 : S i = 0
                        · have hbs : (S i != 0) = false := by simp [hs0]
                          have HA' : Hid (∀ i', i' < i + 1 → S i' ≠ 0 → findFrom j I S (I i') j (homeZ (64 - (g : Int)) seed (I i')).toNat = (i' : Int)) := by
                            intro i' hi' hne
                            by_cases e : i' = i
                            · rw [e] at hne; exact absurd hs0 hne
                            · exact HA.out i' (by omega) hne
                          clear hs0 hF
                          go_wp2
                          go_roundw
                          case rel => exact ⟨i + 1, by omega, by go_num, hbw, HA'⟩
                          case measure => simp [intOf]; omega
                        · have hbs : (S i != 0) = true := by rw [bne_iff_ne]; exact hs0
                          by_cases hri : r = (i : Int)
                          · have hbr : (r != (i : Int)) = false := by simp [hri]
                            have HA' : Hid (∀ i', i' < i + 1 → S i' ≠ 0 → findFrom j I S (I i') j (homeZ (64 - (g : Int)) seed (I i')).toNat = (i' : Int)) := by
                              intro i' hi' hne
                              by_cases e : i' = i
                              · rw [e, HR.out, hri]
                              · exact HA.out i' (by omega) hne
                            clear hs0 hri
                            go_wp2_with (go_at_call 24; refine hF.mono ?_; rintro e w2 ⟨rfl, hb2'⟩)
                            go_roundw
                            case rel => exact ⟨i + 1, by omega, by go_num, hbw.trans (hb2'.mono hsz), HA'⟩
                            case measure => simp [intOf]; omega
                          · have hbr : (r != (i : Int)) = true := by rw [bne_iff_ne]; exact hri
                            have HNV : Hid (¬ ValidP j I S (64 - (g : Int)) (C : Int) seed) := by
                              rintro ⟨lg, _, _, _, _, h5⟩
                              exact hri (HR.out ▸ h5 i hlt hs0)
                            clear hs0 hri
                            go_wp2_with (go_at_call 24; refine hF.mono ?_; rintro e w2 ⟨rfl, hb2'⟩)
                            go_ret
                            exact ⟨RetB.no HNV.out, hbw.trans (hb2'.mono hsz)⟩
                      · obtain rfl : i = j := by omega
                        go_wp2
                        go_ret
                        exact ⟨RetB.yes ⟨g, hpt, rfl, by rw [HC.out]; exact hfull, by rw [HC.out], HA.out⟩, hbw⟩
                  · have hb2 : ((C : Int) != n) = true := by rw [bne_iff_ne]; exact hn
                    have HNV : Hid (¬ ValidP j I S (64 - (g : Int)) n seed) := by
                      rintro ⟨lg, _, _, _, h4, _⟩
                      rw [HC.out] at h4
                      exact hn h4
                    clear hn
                    go_wp2
                    go_ret
                    exact ⟨RetB.no HNV.out, Below.refl _ _⟩
        · have hb : (sh != 64 - (g : Int)) = true := by rw [bne_iff_ne]; exact hsh
          have HNV : Hid (¬ ValidP P I S sh n seed) := by
            rintro ⟨lg, h1, h2, _⟩
            have e : lg = g := pow_inj (h1.2.symm.trans hpt.2)
            subst e
            exact hsh h2
          clear hsh
          by_cases hg12 : g < 12
          all_goals
            go_wp2
            go_ret
            exact ⟨RetB.no HNV.out, Below.refl _ _⟩
      · have hx : ((P : Int) != (N : Int)) = true := by rw [bne_iff_ne]; omega
        have hNV := not_pow (I := I) (S := S) (sh := sh) (n := n) (seed := seed) HG.out (by rw [HP.out]; exact hNP) (by rw [HP.out]; exact hNe)
        have HNV : Hid (¬ ValidP N I S sh n seed) := hNV
        clear hNV
        by_cases hg12 : g < 12
        all_goals
          go_wp2
          go_ret
          exact ⟨RetB.no HNV.out, Below.refl _ _⟩
end Go.Proofs.Qxb6602322a
