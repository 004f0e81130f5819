import Derived.WalkKit
import Derived.Laws.BitsLemmas
import Derived.Laws.Bits64
namespace Go.Proofs.Qxb6602322a
open Go.RowKit

/-- The home of an id: what the Go text reckons. -/
def homeZ (sh seed id : Int) : Int := wrap64 (IntKind.u64.wrap (bits BinOp.xor IntKind.u64 id seed * 11400714819323198485) / 2 ^ sh.toNat)

/-- The size is a power of two, at most 4096. -/
def PowT (lg N : Nat) : Prop := lg ≤ 12 ∧ N = 2 ^ lg
theorem PowT.pos {lg N : Nat} (h : PowT lg N) : 0 < N := by obtain ⟨_, rfl⟩ := h; exact Nat.two_pow_pos lg
theorem PowT.le {lg N : Nat} (h : PowT lg N) : N ≤ 4096 := by
  obtain ⟨h1, rfl⟩ := h; exact Nat.le_trans (Nat.pow_le_pow_right (by omega) h1) (by decide)

theorem PowT.cases {lg N : Nat} (h : PowT lg N) : (lg = 0 ∧ N = 1) ∨ (lg = 1 ∧ N = 2) ∨ (lg = 2 ∧ N = 4) ∨ (lg = 3 ∧ N = 8) ∨ (lg = 4 ∧ N = 16) ∨ (lg = 5 ∧ N = 32) ∨ (lg = 6 ∧ N = 64) ∨ (lg = 7 ∧ N = 128) ∨ (lg = 8 ∧ N = 256) ∨ (lg = 9 ∧ N = 512) ∨ (lg = 10 ∧ N = 1024) ∨ (lg = 11 ∧ N = 2048) ∨ (lg = 12 ∧ N = 4096) := by
  obtain ⟨h1, h2⟩ := h
  rcases (by omega : lg = 0 ∨ lg = 1 ∨ lg = 2 ∨ lg = 3 ∨ lg = 4 ∨ lg = 5 ∨ lg = 6 ∨ lg = 7 ∨ lg = 8 ∨ lg = 9 ∨ lg = 10 ∨ lg = 11 ∨ lg = 12) with rfl | rfl | rfl | rfl | rfl | rfl | rfl | rfl | rfl | rfl | rfl | rfl | rfl <;> simp at h2 <;> simp [h2]

theorem and_low (m : Int) (j : Nat) (n : Int) (hm : (BitVec.ofInt 64 m).toNat = 2 ^ j - 1) (hj : j ≤ 12) : bits .and .i64 n m = (((n % 18446744073709551616).toNat % 2 ^ j : Nat) : Int) := by
  have key : (BitVec.ofInt 64 n &&& BitVec.ofInt 64 m).toNat = (n % ((2 ^ 64 : Nat) : Int)).toNat % 2 ^ j := by
    rw [BitVec.toNat_and, BitVec.toNat_ofInt, hm, Nat.and_two_pow_sub_one_eq_mod]
  show IntKind.i64.wrap ((BitVec.ofInt 64 n &&& BitVec.ofInt 64 m).toNat : Nat) = _
  have hp : 2 ^ j ≤ 2 ^ 12 := Nat.pow_le_pow_right (by decide) hj
  have hp0 : 0 < 2 ^ j := Nat.two_pow_pos j
  rw [key, IntKind.wrap_i64]
  have e : ((2 ^ 64 : Nat) : Int) = 18446744073709551616 := by decide
  rw [e]
  have := Nat.mod_lt ((n % 18446744073709551616).toNat) hp0
  omega

/-- 'n & mask' is the remainder. -/
theorem and_mask {lg N : Nat} (h : PowT lg N) (n : Int) : bits .and .i64 n ((N : Int) - 1) = n % (N : Int) := by
  rcases h.cases with ⟨rfl, rfl⟩ | ⟨rfl, rfl⟩ | ⟨rfl, rfl⟩ | ⟨rfl, rfl⟩ | ⟨rfl, rfl⟩ | ⟨rfl, rfl⟩ | ⟨rfl, rfl⟩ | ⟨rfl, rfl⟩ | ⟨rfl, rfl⟩ | ⟨rfl, rfl⟩ | ⟨rfl, rfl⟩ | ⟨rfl, rfl⟩ | ⟨rfl, rfl⟩
  · rw [and_low _ 0 _ (by decide) (by decide)]; omega
  · rw [and_low _ 1 _ (by decide) (by decide)]; omega
  · rw [and_low _ 2 _ (by decide) (by decide)]; omega
  · rw [and_low _ 3 _ (by decide) (by decide)]; omega
  · rw [and_low _ 4 _ (by decide) (by decide)]; omega
  · rw [and_low _ 5 _ (by decide) (by decide)]; omega
  · rw [and_low _ 6 _ (by decide) (by decide)]; omega
  · rw [and_low _ 7 _ (by decide) (by decide)]; omega
  · rw [and_low _ 8 _ (by decide) (by decide)]; omega
  · rw [and_low _ 9 _ (by decide) (by decide)]; omega
  · rw [and_low _ 10 _ (by decide) (by decide)]; omega
  · rw [and_low _ 11 _ (by decide) (by decide)]; omega
  · rw [and_low _ 12 _ (by decide) (by decide)]; omega

theorem home_lt {lg N : Nat} (h : PowT lg N) (seed id : Int) : ∃ p : Nat, p < N ∧ homeZ (64 - (lg : Int)) seed id = (p : Int) := by
  have hx : 0 ≤ IntKind.u64.wrap (bits BinOp.xor IntKind.u64 id seed * 11400714819323198485) ∧ IntKind.u64.wrap (bits BinOp.xor IntKind.u64 id seed * 11400714819323198485) < 18446744073709551616 := by
    rw [IntKind.wrap_u64]; omega
  suffices hs : 0 ≤ homeZ (64 - (lg : Int)) seed id ∧ homeZ (64 - (lg : Int)) seed id < N from ⟨(homeZ (64 - (lg : Int)) seed id).toNat, by omega, by omega⟩
  unfold homeZ
  generalize IntKind.u64.wrap (bits BinOp.xor IntKind.u64 id seed * 11400714819323198485) = x at *
  rcases h.cases with ⟨rfl, rfl⟩ | ⟨rfl, rfl⟩ | ⟨rfl, rfl⟩ | ⟨rfl, rfl⟩ | ⟨rfl, rfl⟩ | ⟨rfl, rfl⟩ | ⟨rfl, rfl⟩ | ⟨rfl, rfl⟩ | ⟨rfl, rfl⟩ | ⟨rfl, rfl⟩ | ⟨rfl, rfl⟩ | ⟨rfl, rfl⟩ | ⟨rfl, rfl⟩ <;> simp [wrap64] <;> omega

/-- The Go text's probe. -/
def findFrom (N : Nat) (I S : Nat → Int) (id : Int) : Nat → Nat → Int
  | 0, _ => -1
  | f + 1, p => if S p = 0 then -1 else if I p = id then (p : Int) else findFrom N I S id f ((p + 1) % N)

end Go.Proofs.Qxb6602322a
