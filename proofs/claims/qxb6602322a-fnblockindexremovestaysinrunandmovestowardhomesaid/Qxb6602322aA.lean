import Derived.Test.Qxb6602322aRows
import Derived.Test.Qxb6602322aB
import Derived.WalkKit
import Derived.ProofKit
import Derived.Below
import Derived.Deep.QuietTactic
import Derived.Deep.OwnRows
import Derived.BigQuiet
import Derived.WalkSpells
import Derived.WalkLawsBesides
namespace Go.Proofs.Qxb6602322a
open Go.RowKit

theorem bcell {W w1 : World} (hb : Below W.heap.size W w1) : (∀ b o, b < W.heap.size → w1.cell? ⟨b, o, none⟩ = W.cell? ⟨b, o, none⟩) ∧ (∀ b o, b < W.heap.size → w1.frozen? ⟨b, o, none⟩ = W.frozen? ⟨b, o, none⟩) :=
  ⟨fun b o h => hb.cell (p := ⟨b, o, none⟩) h, fun b o h => hb.frozen (p := ⟨b, o, none⟩) h⟩

theorem ret_int {k : IntKind} {a b : Int} (h : a = b) : Ending.returned (.int k a) = .returned (.int k b) := by rw [h]

set_option maxHeartbeats 400000 in
theorem home_any (b : Nat) (sh seed id : Int) (w : World)
   (h1 : w.cell? ⟨b, 1, none⟩ = some (.int .i64 sh))
   (h3 : w.cell? ⟨b, 3, none⟩ = some (.int .u64 seed)) (hs : 0 ≤ sh) (hs2 : sh ≤ 64) :
    Calls Try.prog 32 #[.pointer (some ⟨b, 0, none⟩), .int .u64 id] w fun e w' => e = .returned (.int .i64 (homeZ sh seed id)) ∧ ∃ nq, w' = w.drewN nq := by
  go_enter Try.func32, Try.ntmps32
  go_wp2
  go_quiet (fail)
  go_wp2
  go_ret
  exact ⟨rfl, nq, rfl⟩

set_option maxHeartbeats 400000 in
theorem zzhome_any (sh seed id : Int) (w : World) (hs : 0 ≤ sh) (hs2 : sh ≤ 64) :
    Calls Try.prog 28 #[.int .i64 sh, .int .u64 seed, .int .u64 id] w fun e w' => e = .returned (.int .i64 (homeZ sh seed id)) ∧ Below w.heap.size w w' := by
  go_enter Try.func28, Try.ntmps28
  go_wp2_with (go_at_call 32; refine (home_any _ sh seed id _ (by simp) (by simp) hs hs2).mono ?_; rintro e w' ⟨rfl, nq, rfl⟩)
  go_ret
  exact ⟨rfl, below_drewN ((Below.refl _ _).alloc (Nat.le_refl _) _) _⟩

/-- The home as a place of the table. -/
theorem zzhome_at {lg N : Nat} (h : PowT lg N) (seed id : Int) : ∃ p : Nat, p < N ∧ homeZ (64 - (lg : Int)) seed id = (p : Int) ∧ ∀ w : World,
    Calls Try.prog 28 #[.int .i64 (64 - (lg : Int)), .int .u64 seed, .int .u64 id] w fun e w' => e = .returned (.int .i64 (p : Int)) ∧ Below w.heap.size w w' := by
  obtain ⟨p, hp, e⟩ := home_lt h seed id
  have hl := h.1
  refine ⟨p, hp, e, fun w => ?_⟩
  have := zzhome_any (64 - (lg : Int)) seed id w (by omega) (by omega)
  rw [e] at this
  exact this

set_option maxHeartbeats 400000 in
theorem find_any (lg N b0 o0 c0 b1 o1 c1 : Nat) (I S : Nat → Int) (seed id : Int) (w : World) (hN : PowT lg N)
    (hI : ∀ i, i < N → w.cell? ⟨b0, o0 + i, none⟩ = some (.int .u64 (I i))) (hS : ∀ i, i < N → w.cell? ⟨b1, o1 + i, none⟩ = some (.int .i64 (S i)))
    (hb0 : b0 < w.heap.size) (hb1 : b1 < w.heap.size) :
    Calls Try.prog 24 #[.slice (some ⟨b0, o0, none⟩) N c0, .slice (some ⟨b1, o1, none⟩) N c1, .int .i64 (64 - (lg : Int)), .int .u64 seed, .int .u64 id] w fun e w' =>
      e = .returned (.int .i64 (findFrom N I S id N (homeZ (64 - (lg : Int)) seed id).toNat)) ∧ Below w.heap.size w w' := by
  have hpos := hN.pos
  have hle := hN.le
  have hlg := hN.1
  have h0 : ((N : Int) == 0) = false := beq_eq_false_iff_ne.2 (by omega)
  obtain ⟨h, hh, eh, hc⟩ := zzhome_at hN seed id
  rw [eh, Int.toNat_natCast]
  clear eh
  have hd1 : decide ((h : Int) < 0) = false := decide_eq_false (by omega)
  have hd2 : decide ((N : Int) - 1 < (h : Int)) = false := decide_eq_false (by omega)
  go_enter Try.func24, Try.ntmps24
  go_wp2_with (go_at_call 28; refine (hc _).mono ?_; rintro e w' ⟨rfl, hb⟩)
  obtain ⟨hI', hS'⟩ : (∀ i, i < N → w'.cell? ⟨b0, o0 + i, none⟩ = some (.int .u64 (I i))) ∧ (∀ i, i < N → w'.cell? ⟨b1, o1 + i, none⟩ = some (.int .i64 (S i))) :=
    ⟨fun i hi => ((bcell hb).1 _ _ hb0).trans (hI i hi), fun i hi => ((bcell hb).1 _ _ hb1).trans (hS i hi)⟩
  clear hI hS hc
  go_loop [12, 13] (fun p st => ∃ q k : Nat, q < N ∧ k ≤ N ∧ p = .int .i64 q ∧ st = .int .i64 k ∧ Hid (findFrom N I S id (N - k) q = findFrom N I S id N h)) (fun _ st => N - (intOf st).toNat)
  case atStart => exact ⟨h, 0, hh, Nat.zero_le _, rfl, rfl, rfl⟩
  case round =>
    obtain ⟨q, k, hq, hk, rfl, rfl, HF⟩ := hrel
    have hIq := hI' q hq
    have hSq := hS' q hq
    clear hI' hS'
    by_cases hlt : k < N
    · obtain ⟨f, hf⟩ : ∃ f, N - k = f + 1 := ⟨N - k - 1, by omega⟩
      have hf' : N - (k + 1) = f := by omega
      rw [hf, findFrom] at HF
      have Hf' : Hid (N - (k + 1) = f) := hf'
      clear hf hf'
      by_cases hs0 : S q = 0
      · rw [if_pos hs0] at HF
        have hb0 : (S q == 0) = true := beq_iff_eq.2 hs0
        clear hs0
        go_wp2
        go_ret
        exact ⟨ret_int HF.out, hb⟩
      · rw [if_neg hs0] at HF
        have hb0 : (S q == 0) = false := beq_eq_false_iff_ne.2 hs0
        clear hs0
        by_cases hi0 : I q = id
        · rw [if_pos hi0] at HF
          have hb1 : (I q == id) = true := beq_iff_eq.2 hi0
          clear hi0
          go_wp2
          go_ret
          exact ⟨ret_int HF.out, hb⟩
        · rw [if_neg hi0] at HF
          have hb1 : (I q == id) = false := beq_eq_false_iff_ne.2 hi0
          clear hi0
          go_wp2
          go_round
          case rel => exact ⟨(q + 1) % N, k + 1, Nat.mod_lt _ hpos, by omega, by rw [and_mask hN]; simp, by go_num, by rw [Hf'.out]; exact HF⟩
          case measure => simp [intOf]; omega
    · obtain rfl : k = N := by omega
      go_wp2
      go_ret
      rw [Nat.sub_self, findFrom] at HF
      exact ⟨ret_int HF.out, hb⟩
end Go.Proofs.Qxb6602322a
