import Derived.Test.Qxb6602322aC
namespace Go.Proofs.Qxb6602322a
open Go.RowKit

theorem Try.info25 : (Try.prog.info? 25).map (fun i => (i.zero, i.size, i.bytes)) = some (some (.int .u64 0), 1, 8) := by kernel_rfl
theorem Try.info3 : (Try.prog.info? 3).map (fun i => (i.zero, i.size, i.bytes)) = some (some (.int .i64 0), 1, 8) := by kernel_rfl

set_option maxHeartbeats 400000 in
theorem zz22_any (a0 a1 : Option Addr) (n0 c0 n1 c1 : Nat) (sh n seed id : Int) (w : World) (h0 : n0 ≤ maxLen) (h1 : n1 ≤ maxLen) :
    Calls Try.prog 22 #[.slice a0 n0 c0, .slice a1 n1 c1, .int .i64 sh, .int .i64 n, .int .u64 seed, .int .u64 id] w fun e w' => RetB e ((n0 : Int) + n1 ≤ 1048576) ∧ w' = w := by
  unfold maxLen at h0 h1
  go_enter Try.func22, Try.ntmps22
  go_wp2
  all_goals go_ret
  · exact ⟨RetB.no (by omega), rfl⟩
  · exact ⟨RetB.no (by omega), rfl⟩
  · exact ⟨RetB.no (by omega), rfl⟩
  · exact ⟨RetB.yes (by omega), rfl⟩

set_option maxHeartbeats 400000 in
theorem zz27_any (a0 a1 : Option Addr) (n0 c0 n1 c1 : Nat) (sh n seed id : Int) (w : World) (h0 : n0 ≤ maxLen) (h1 : n1 ≤ maxLen) :
    Calls Try.prog 27 #[.slice a0 n0 c0, .slice a1 n1 c1, .int .i64 sh, .int .i64 n, .int .u64 seed, .int .u64 id] w fun e w' => RetB e ((n0 : Int) + n1 ≤ 1048576) ∧ w' = w := by
  unfold maxLen at h0 h1
  go_enter Try.func27, Try.ntmps27
  go_wp2
  all_goals go_ret
  · exact ⟨RetB.no (by omega), rfl⟩
  · exact ⟨RetB.no (by omega), rfl⟩
  · exact ⟨RetB.no (by omega), rfl⟩
  · exact ⟨RetB.yes (by omega), rfl⟩

/-- A row that is being filled from its head. -/
def fillTo (f : Nat → Value) (z : Value) (k : Nat) : Nat → Value := fun j => if j < k then f j else z
theorem fillTo_step {w : World} {b t n k : Nat} {f : Nat → Value} {z : Value} (h : w.rowIs b t n (fillTo f z k)) : (w.setCell ⟨b, k, none⟩ (f k)).rowIs b t n (fillTo f z (k + 1)) :=
  (h.set k (f k)).congr fun j _ => by
    unfold fillTo
    by_cases e : j = k
    · subst e; simp
    · by_cases l : j < k
      · simp [e, l, (by omega : j < k + 1)]
      · simp [e, l]; intro h'; omega
theorem fillTo_all {w : World} {b t n : Nat} {f : Nat → Value} {z : Value} (h : w.rowIs b t n (fillTo f z n)) : w.rowIs b t n f :=
  h.congr fun j hj => by simp [fillTo, hj]

set_option maxHeartbeats 400000 in
theorem cloneU_any (N b0 o0 c0 : Nat) (I : Nat → Int) (w : World) (hle : N ≤ 4096)
    (hI : ∀ i, i < N → w.cell? ⟨b0, o0 + i, none⟩ = some (.int .u64 (I i))) (hb0 : b0 < w.heap.size) :
    Calls Try.prog 21 #[.slice (some ⟨b0, o0, none⟩) N c0] w fun e w' =>
      e = .returned (.slice (some ⟨w.heap.size, 0, none⟩) N N) ∧ w'.rowIs w.heap.size 25 N (fun i => .int .u64 (I i)) ∧ Below w.heap.size w w' := by
  have hmk := fun w => run_make_row' (P := Try.prog) 31 25 (.int .u64 0) 8 Try.underlying31 Try.info25 rfl .i64 .i64 N (by omega) (by omega) w
  have hnil := fun w => Lib.run_eql_slice_nil (P := Try.prog) w 31 25 (some ⟨b0, o0, none⟩) N c0 0 0 Try.underlying31
  simp only [Option.isNone_some] at hnil
  go_enter Try.func21, Try.ntmps21
  go_wp2
  go_loopw [4] (fun i wr => ∃ k : Nat, k ≤ N ∧ i = .int .i64 k ∧ wr.rowIs w.heap.size 25 N (fillTo (fun i => .int .u64 (I i)) (.int .u64 0) k) ∧ Below w.heap.size w wr) (fun i _ => N - (intOf i).toNat)
  case atStart => exact ⟨0, Nat.zero_le _, rfl, (World.rowIs_made w (.int .u64 0) N 25).congr fun _ _ => by simp [fillTo], (Below.refl _ _).alloc (Nat.le_refl _) _⟩
  case round =>
    obtain ⟨k, hk, rfl, hrow, hbw⟩ := hrel
    by_cases hlt : k < N
    · have hIk := (hbw.cell (p := ⟨b0, o0 + k, none⟩) hb0).trans (hI k hlt)
      have hcl := hrow.cell hlt
      have hfr := hrow.frozen k
      have hR := fillTo_step hrow
      clear hI hrow hmk hnil
      go_wp2
      go_roundw
      case rel => exact ⟨k + 1, by omega, by go_num, hR, hbw.setCell (Nat.le_refl _) _⟩
      case measure => simp [intOf]; omega
    · obtain rfl : k = N := by omega
      clear hI hmk hnil
      go_wp2
      go_ret
      exact ⟨rfl, fillTo_all hrow, hbw⟩

set_option maxHeartbeats 400000 in
theorem cloneI_any (N b0 o0 c0 : Nat) (I : Nat → Int) (w : World) (hle : N ≤ 4096)
    (hI : ∀ i, i < N → w.cell? ⟨b0, o0 + i, none⟩ = some (.int .i64 (I i))) (hb0 : b0 < w.heap.size) :
    Calls Try.prog 25 #[.slice (some ⟨b0, o0, none⟩) N c0] w fun e w' =>
      e = .returned (.slice (some ⟨w.heap.size, 0, none⟩) N N) ∧ w'.rowIs w.heap.size 3 N (fun i => .int .i64 (I i)) ∧ Below w.heap.size w w' := by
  have hmk := fun w => run_make_row' (P := Try.prog) 40 3 (.int .i64 0) 8 Try.underlying40 Try.info3 rfl .i64 .i64 N (by omega) (by omega) w
  have hnil := fun w => Lib.run_eql_slice_nil (P := Try.prog) w 40 3 (some ⟨b0, o0, none⟩) N c0 0 0 Try.underlying40
  simp only [Option.isNone_some] at hnil
  go_enter Try.func25, Try.ntmps25
  go_wp2
  go_loopw [4] (fun i wr => ∃ k : Nat, k ≤ N ∧ i = .int .i64 k ∧ wr.rowIs w.heap.size 3 N (fillTo (fun i => .int .i64 (I i)) (.int .i64 0) k) ∧ Below w.heap.size w wr) (fun i _ => N - (intOf i).toNat)
  case atStart => exact ⟨0, Nat.zero_le _, rfl, (World.rowIs_made w (.int .i64 0) N 3).congr fun _ _ => by simp [fillTo], (Below.refl _ _).alloc (Nat.le_refl _) _⟩
  case round =>
    obtain ⟨k, hk, rfl, hrow, hbw⟩ := hrel
    by_cases hlt : k < N
    · have hIk := (hbw.cell (p := ⟨b0, o0 + k, none⟩) hb0).trans (hI k hlt)
      have hcl := hrow.cell hlt
      have hfr := hrow.frozen k
      have hR := fillTo_step hrow
      clear hI hrow hmk hnil
      go_wp2
      go_roundw
      case rel => exact ⟨k + 1, by omega, by go_num, hR, hbw.setCell (Nat.le_refl _) _⟩
      case measure => simp [intOf]; omega
    · obtain rfl : k = N := by omega
      clear hI hmk hnil
      go_wp2
      go_ret
      exact ⟨rfl, fillTo_all hrow, hbw⟩
end Go.Proofs.Qxb6602322a
