import Derived.Test.Qxb6602369aX
import Derived.ArgAppend
namespace Go.Proofs.Qxb6602369a
open Go.RowKit

/-- A queue of numbers, at some place of a row of the call's own. -/
def Que (w : World) (base : Nat) (v : Value) (n : Nat) (f : Nat → Nat) : Prop :=
  ∃ g off cap N F, v = .slice (some ⟨g, off, none⟩) n cap ∧ base ≤ g ∧ w.rowIs g 3 N F ∧ off + cap = N ∧ n ≤ cap ∧ cap ≤ maxLen ∧ ∀ j, j < n → F (off + j) = .int .i64 (f j : Nat)
theorem rowIs_of_owns {w : World} {base e n : Nat} {v : Value} {xs : List Value} (h : w.ownsRow base e 1 v n xs) (hn : 0 < n) : ∃ g cap F, v = .slice (some ⟨g, 0, none⟩) n cap ∧ base ≤ g ∧ w.rowIs g e cap F ∧ n ≤ cap ∧ cap ≤ maxLen ∧ ∀ j u, xs[j]? = some u → F j = u := by
  rcases h.2 with ⟨_, h0⟩ | ⟨g, cap, cur, rfl, h2, h3, h4, h5, h6, h7⟩
  · omega
  · rw [Nat.mul_one] at h6
    refine ⟨g, cap, fun j => cur[j]!, rfl, h2, ⟨cur, h3, h6, fun j hj => ?_⟩, h4, h5, fun j u hu => ?_⟩
    · rw [Array.getElem?_eq_getElem (by omega)]
      simp [(by omega : j < cur.size)]
    · rw [← h7, List.getElem?_take] at hu
      by_cases hj : j < n * 1
      · rw [if_pos hj] at hu
        have : cur[j]? = some u := by simpa using hu
        obtain ⟨hlt, e1⟩ := Array.getElem?_eq_some_iff.1 this
        show cur[j]! = u
        rw [getElem!_pos cur j hlt]
        exact e1
      · rw [if_neg hj] at hu; cases hu

theorem Que.ofOwns {w : World} {base n : Nat} {v : Value} {f : Nat → Nat} (h : w.ownsRow base 3 1 v n ((List.range n).map fun j => .int .i64 (f j : Nat))) (hn : 0 < n) : Que w base v n f := by
  obtain ⟨g, cap, F, rfl, h1, h2, h3, h4, h5⟩ := rowIs_of_owns h hn
  exact ⟨g, 0, cap, cap, F, rfl, h1, h2, by omega, h3, h4, fun j hj => by rw [Nat.zero_add]; exact h5 j _ (by simp [hj])⟩
section
variable {w w' : World} {base n : Nat} {v : Value} {f : Nat → Nat}
theorem Que.mono {base' : Nat} (h : Que w base v n f) (hb : base' ≤ base) : Que w base' v n f := by
  obtain ⟨g, off, cap, N, F, e, h1, h2⟩ := h
  exact ⟨g, off, cap, N, F, e, by omega, h2⟩
theorem Que.lt (h : Que w base v n f) : ∀ k, v.ownBlock = some k → base ≤ k ∧ k < w.heap.size := by
  obtain ⟨g, off, cap, N, F, rfl, h1, h2, _⟩ := h
  intro k hk
  have : k = g := by simpa [Value.ownBlock, eq_comm] using hk
  subst this
  exact ⟨h1, h2.lt⟩
theorem Que.of_block (h : Que w base v n f) (hb : ∀ g, v.ownBlock = some g → w'.heap[g]? = w.heap[g]?) : Que w' base v n f := by
  obtain ⟨g, off, cap, N, F, rfl, h1, h2, h3⟩ := h
  exact ⟨g, off, cap, N, F, rfl, h1, h2.of_block (hb g rfl), h3⟩
theorem Que.alloc (h : Que w base v n f) (o : Obj) : Que (w.alloc o) base v n f := h.of_block fun g hg => Below.heap_alloc _ _ _ (h.lt g hg).2
theorem Que.drew (h : Que w base v n f) : Que w.drew base v n f := h
theorem Que.congr {f' : Nat → Nat} (h : Que w base v n f) (hf : ∀ j, j < n → f j = f' j) : Que w base v n f' := by
  obtain ⟨g, off, cap, N, F, rfl, h1, h2, h3, h4, h5, h6⟩ := h
  exact ⟨g, off, cap, N, F, rfl, h1, h2, h3, h4, h5, fun j hj => by rw [h6 j hj, hf j hj]⟩

/-- One number more. -/
theorem run_append_que (P : Program) (t ty : TypeId) (i : TypeInfo) (ht : P.underlying t = some (.slice 3)) (hi : P.info? 3 = some i) (hz : i.zero = some (.int .i64 0)) (hsize : i.size = 1) (hby : i.bytes = 8)
    (h : Que w base v n f) (ad : Addr) (c x : Nat) (hc : ∀ j u, [Value.int .i64 (x : Nat)][j]? = some u → w.cell? (ad.add j) = some u) (hn : n + 1 ≤ 100000000) (hbase : base ≤ w.heap.size) :
    ∃ v' w', (Builtin.append_ #[t, t] ty #[v, .slice (some ad) 1 c]).run P w = .ok v' w' ∧ Que w' base v' (n + 1) (upd f n x) ∧ Grew w w' v v' := by
  obtain ⟨g, off, cap, N, F, rfl, h1, h2, h3, h4, h5, h6⟩ := h
  by_cases hroom : n + 1 ≤ cap
  · have hr := run_append_room_cells (P := P) w t ty 3 i ht hi g off n cap ad 1 c [.int .i64 (x : Nat)] (by simp [hsize]) hc (by simp [Value.oneCell']) hroom
      (fun j hj => by
        have : j = 0 := by simpa using hj
        subst this
        rw [hsize, h2.cell (by omega)]; rfl)
      (fun j _ => h2.frozen _)
    refine ⟨_, _, hr, ⟨g, off, cap, N, fun j => if j = off + n then .int .i64 (x : Nat) else F j, rfl, h1, ?_, h3, hroom, h5, fun j hj => ?_⟩, ?_⟩
    · rw [hsize, Nat.mul_one]
      exact h2.set (off + n) (.int .i64 (x : Nat))
    · show (if off + j = off + n then Value.int .i64 (x : Nat) else F (off + j)) = _
      by_cases e : j = n
      · subst e
        rw [if_pos rfl, upd_same]
      · rw [if_neg (by omega), upd_other _ _ _ e]; exact h6 j (by omega)
    · rw [hsize, Nat.mul_one]
      refine ⟨⟨rfl, rfl, rfl, by show _ ≤ (w.setCell _ _).heap.size; simp, fun k hk hne => ?_⟩, .inl rfl⟩
      exact Below.heap_setCell _ _ _ _ (fun e => hne (by rw [e]; rfl))
  · have hlo : ∀ j u, ((List.range n).map fun j => Value.int .i64 (f j : Nat))[j]? = some u → w.cell? ((⟨g, off, none⟩ : Addr).add j) = some u := fun j u hu => by
      have hj : j < n := by have := (List.getElem?_eq_some_iff.1 hu).1; simpa using this
      rw [Addr.add_lit, h2.cell (by omega), h6 j hj]
      simpa [hj] using hu
    obtain ⟨v', w', hr, r1, r2⟩ := run_append_arg_grows (P := P) w t ty 3 i (.int .i64 0) 1 8 ht hi hz hsize hby rfl (by omega) ⟨g, off, none⟩ n cap ((List.range n).map fun j => Value.int .i64 (f j : Nat)) (by simp) hlo ad 1 c [.int .i64 (x : Nat)] rfl hc (by omega) (by unfold maxLen; omega) (by omega)
    have hq : Que w' w.heap.size v' (n + 1) (upd f n x) := by
      refine Que.ofOwns ?_ (by omega)
      have e : (List.range n).map (fun j => Value.int .i64 (f j : Nat)) ++ [.int .i64 (x : Nat)] = (List.range (n + 1)).map (fun j => Value.int .i64 (upd f n x j : Nat)) := by
        rw [List.range_succ, List.map_append]
        congr 1
        · apply List.map_congr_left
          intro j hj
          rw [upd_other _ _ _ (by have := List.mem_range.1 hj; omega)]
        · simp [upd]
      rw [← e]; exact r1
    refine ⟨v', w', hr, hq.mono hbase, ⟨⟨r2.os, r2.tape, r2.output, r2.size, fun k hk _ => r2.block k hk (by simp)⟩, ?_⟩⟩
    cases hb : v'.ownBlock with
    | none => obtain ⟨g', off', cap', _, _, rfl, _⟩ := hq; cases hb
    | some k => exact .inr ⟨k, rfl, (hq.lt k hb).1⟩
end
theorem wpList_append_que {P : Program} (w : World) {ops : Array Oper} {rest : List Oper} {o : Oper} {a : Act} {Q : Exit → Act → World → Prop}
    (hg : o.guard = none) (s x : Operand) (t : TypeId) (hop : o.op = Op.call { callee := Callee.builtin Builtin.append, args := #[s, x], argTypes := #[t, t] })
    (ht : P.underlying t = some (.slice 3)) (hinfo : (P.info? 3).map (fun i => (i.zero, i.size, i.bytes)) = some (some (.int .i64 0), 1, 8))
    (base : Nat) (v : Value) (n : Nat) (f : Nat → Nat) (hs : a.eval s = v) (hq : Que w base v n f) (ad : Addr) (c y : Nat) (hx : a.eval x = .slice (some ad) 1 c)
    (hc : ∀ j u, [Value.int .i64 (y : Nat)][j]? = some u → w.cell? (ad.add j) = some u) (hn : n + 1 ≤ 100000000) (hbase : base ≤ w.heap.size)
    (hK : ∀ v' w', Que w' base v' (n + 1) (upd f n y) → Grew w w' v v' → wpList P ops Q rest (a.put o.dst v') w') :
    wpList P ops Q (o :: rest) a w := by
  obtain ⟨i, hi, hz0, hz1, hz2⟩ := info_parts hinfo
  obtain ⟨v', w', hr, h2, h3⟩ := run_append_que P t o.type i ht hi hz0 hz1 hz2 hq ad c y hc hn hbase
  refine wpList_plain hg fun K hK' => ?_
  unfold Oper.wp
  simp [execOp, hop, resolve, invoke, builtin, hs, hx, hr, Result.andThen]
  exact hK' _ _ (hK v' w' h2 h3)
end Go.Proofs.Qxb6602369a
