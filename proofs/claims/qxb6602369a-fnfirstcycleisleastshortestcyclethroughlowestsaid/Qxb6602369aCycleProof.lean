/- The given statement, proved. The frame is the shell's; the walk: the texts it imports. -/
import Derived.Test.Qxb6602369aRows
import Derived.Test.Qxb6602369aA
import Derived.Test.Qxb6602369aB
import Derived.Test.Qxb6602369aZ
import Derived.WalkKit
import Derived.ProofKit
import Derived.OpenShut
import Derived.ShutString
import Derived.ChangeOld
import Derived.Below
namespace Go.Proofs.Qxb6602369a.fnFirstCycleIsLeastShortestCycleThroughLowest
open Go.ChangeShapes Go.WideShapes Go.ChangeAt Go.RowKit
set_option linter.unusedVariables false

theorem own : ownKnob Try.prog.godebug = none := by kernel_rfl
theorem laidOut : laidOutB Try.prog = true := by kernel_rfl

theorem walk (a0 : Option Addr) (cap0 : Nat) (G : List NodeD) (w : World) (w0 : RdN 0 w (.slice a0 G.length cap0) G) :
    Calls Try.prog 5 #[.slice a0 G.length cap0] w fun e w' => e = .returned (.bool true) ∧ Below w.heap.size w w' :=
  law_walk firstCycle_any 0 cap0 a0 G w w0

/-! ### THE ROW's STEP: WRITTEN OUT: LEAVE IT -/
set_option maxRecDepth 100000 in
theorem lifted (os : Os) (started : os.Started) (H : Type) (enc : TypeId × Value → H) :
    ReturnsInHanded {} Try.checked os 5 .any (Rows.fnFirstCycleIsLeastShortestCycleThroughLowestSpec.pre6 enc Try.prog Try.f5 Rows.fnFirstCycleIsLeastShortestCycleThroughLowestRow.domain false) (Rows.fnFirstCycleIsLeastShortestCycleThroughLowestSpec.post enc Try.prog Try.f5 false true false false) := by
  refine returnsInHanded_of_change (C := Try.checked) own started (by kernel_rfl) Try.func5
    (ChangeSpec.witness6 (enc := enc) (C := Try.checked) false ⟨#[], #[.slice none 0 0], []⟩ 8 (by kernel_rfl) (by kernel_rfl) (by kernel_rfl) (by kernel_rfl)) ?_
  intro W base args ds gs before hval0 hW hcnd _
  have hval : ∀ (j : Nat) t v, Try.f5.params[j]? = some t → args[j]? = some v → Value.okWide Try.prog W .any base t v := hval0
  have hW' := hW
  obtain ⟨p, q, hA0, hV, rfl, hfz, hnd⟩ := hW
  have hA : DataW.TrodAll enc Try.prog W 0 (fun _ => true) true Try.f5.params.toList args.toList ds p := hA0
  rw [Try.params5] at hA hval
  obtain ⟨v0, vs0, d0, ds0, p0, q0, hargs, rfl, rfl, h0, r0⟩ := trodAll_cons hA
  obtain ⟨rfl, rfl, rfl⟩ := trodAll_nil r0
  obtain rfl : args = #[v0] := by cases args; simp_all
  obtain ⟨rfl, rfl⟩ := trodVars_none hV
  obtain ⟨a0, len0, cap0, rfl⟩ := okWide_slice Try.underlying29 (hval 0 29 v0 rfl rfl)
  have k0 := h0
  have lt0 : ∀ x ∈ p0, x.block < W.heap.size := by obtain ⟨m, hm⟩ := k0; exact DataW.trod_lt m _ _ _ hm
  obtain ⟨G, w0⟩ : ∃ G, RdN 0 W (.slice a0 len0 cap0) G := by
    obtain ⟨fuel, hf⟩ := h0
    exact open_nodes hf
  obtain rfl : len0 = G.length := (w0.at).1
  clear hA0 hval0
  refine (walk a0 cap0 G W w0).mono fun e W' ⟨he, bel⟩ => ?_
  subst he
  exact ⟨_, rfl, _, _, _, [], _, [], hW', trodAll_mk1 (shut_bool Try.underlying4 _), (trodAll_cons_mk (Below.trod laidOut (by kernel_rfl) (of_decide_eq_true (by kernel_rfl)) k0 bel lt0) trodAll_mk0), rfl, bel.frame _, (fun h => by cases h)⟩

theorem over : Rows.fnFirstCycleIsLeastShortestCycleThroughLowestRow.holds Try.pinned (OpenSpec.ofChange Rows.fnFirstCycleIsLeastShortestCycleThroughLowestSpec) :=
  OpenClaim.holds_of_wide 5 Try.f5 rfl rfl rfl rfl rfl rfl rfl ⟨rfl, rfl, rfl, rfl, rfl⟩ rfl rfl rfl rfl rfl (by kernel_rfl) Try.func5 (by kernel_rfl)
    (of_decide_eq_true (by kernel_rfl)) (by unfold Func.isWrapper; first | (rw [if_pos (by decide +kernel)]; kernel_rfl) | (rw [if_neg (by decide +kernel)]; exact ⟨rfl, rfl⟩))
    (fun os started H enc _ => lifted os started H enc)

/-- ████ THE STATEMENT ████ -/
theorem proved : Rows.FnFirstCycleIsLeastShortestCycleThroughLowestSaid := over
end Go.Proofs.Qxb6602369a.fnFirstCycleIsLeastShortestCycleThroughLowest
