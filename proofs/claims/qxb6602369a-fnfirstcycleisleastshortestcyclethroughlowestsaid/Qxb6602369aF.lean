import Derived.Test.Qxb6602369aE
namespace Go.Proofs.Qxb6602369a
open Go.RowKit

/-- A row's value went from v to v': blocks but v's own are as they were; v' lies in v's block or in a new one. -/
structure Grew (w w' : World) (v v' : Value) : Prop where
  grown : w.grownBy w' v.ownBlock
  blk : v'.ownBlock = v.ownBlock ∨ ∃ k, v'.ownBlock = some k ∧ w.heap.size ≤ k
theorem Grew.refl (w : World) (v : Value) : Grew w w v v := ⟨World.grownBy.refl _ _, .inl rfl⟩
theorem Grew.trans {a b c : World} {u v x : Value} (h : Grew a b u v) (g : Grew b c v x) : Grew a c u x := by
  refine ⟨⟨g.grown.os.trans h.grown.os, g.grown.tape.trans h.grown.tape, g.grown.output.trans h.grown.output, Nat.le_trans h.grown.size g.grown.size, fun k hk hne => ?_⟩, ?_⟩
  · refine (g.grown.block k (Nat.lt_of_lt_of_le hk h.grown.size) ?_).trans (h.grown.block k hk hne)
    rcases h.blk with e | ⟨k', e, hk'⟩
    · rw [e]; exact hne
    · rw [e]; intro h'; cases h'; omega
  · rcases g.blk with e | ⟨k', e, hk'⟩
    · rw [e]; exact h.blk
    · exact .inr ⟨k', e, Nat.le_trans h.grown.size hk'⟩
theorem Grew.alloc {a b : World} {u v : Value} (h : Grew a b u v) (o : Obj) : Grew a (b.alloc o) u v :=
  ⟨⟨h.grown.os, h.grown.tape, h.grown.output, Nat.le_trans h.grown.size (by simp), fun k hk hne => (Below.heap_alloc b o k (Nat.lt_of_lt_of_le hk h.grown.size)).trans (h.grown.block k hk hne)⟩, h.blk⟩
theorem Grew.drew {a b : World} {u v : Value} (h : Grew a b u v) : Grew a b.drew u v := ⟨⟨h.grown.os, h.grown.tape, h.grown.output, h.grown.size, h.grown.block⟩, h.blk⟩
theorem Grew.below {B : Nat} {a b c : World} {u v : Value} (h : Grew b c u v) (hb : Below B a b) (hB : B ≤ b.heap.size) (hr : ∀ k, u.ownBlock = some k → B ≤ k) : Below B a c := hb.grown h.grown hB hr

theorem run_append_grew (P : Program) (w : World) (base : Nat) (t ty e : TypeId) (i : TypeInfo) (z : Value) (size bytes : Nat) (ht : P.underlying t = some (.slice e)) (hi : P.info? e = some i) (hz : i.zero = some z)
    (hsize : i.size = size) (hby : i.bytes = bytes) (hzs : z.cells.size = size) (hsz : 0 < size)
    (v : Value) (n : Nat) (xs : List Value) (hown : w.ownsRow base e size v n xs)
    (a : Addr) (m c : Nat) (news : List Value) (hl : news.length = m * size) (hnews : ∀ j u, news[j]? = some u → w.cell? (a.add j) = some u) (h1 : ∀ u ∈ news, u.oneCell' = true)
    (h63 : n + m ≤ maxLen) (hbytes : (n + m) * bytes ≤ 140737488355328) (hbase : base ≤ w.heap.size) :
    ∃ v' w', (Builtin.append_ #[t, t] ty #[v, .slice (some a) m c]).run P w = .ok v' w' ∧ w'.ownsRow base e size v' (n + m) (xs ++ news) ∧ Grew w w' v v' := by
  obtain ⟨v', w', hr, h2, h3, h4⟩ := run_append_own (P := P) w base t ty e i z size bytes ht hi hz hsize hby hzs hsz v n xs hown a m c news hl hnews h1 h63 hbytes hbase
  refine ⟨v', w', hr, h2, h3, ?_⟩
  rcases hown.2 with ⟨rfl, rfl⟩ | ⟨g, cap, cur, rfl, hbg, hg, hnc, hcm, hcs, htake⟩
  · have hx : xs = [] := List.eq_nil_of_length_eq_zero (by simpa using hown.1)
    subst hx
    obtain ⟨v2, w2, hr2, h22, _, _⟩ := run_append_own (P := P) w w.heap.size t ty e i z size bytes ht hi hz hsize hby hzs hsz (.slice none 0 0) 0 [] (World.ownsRow_nil _ _ _ _) a m c news hl hnews h1 h63 hbytes (Nat.le_refl _)
    rw [hr] at hr2
    obtain ⟨rfl, rfl⟩ : v' = v2 ∧ w' = w2 := by simpa using hr2
    cases hb : v'.ownBlock with
    | none => exact .inl rfl
    | some k => exact .inr ⟨k, rfl, (h22.lt k hb).1⟩
  · by_cases hroom : n + m ≤ cap
    · obtain ⟨w2, hr2, _, _⟩ := run_append_fits (P := P) w base t ty e i size ht hi hsize g n cap xs hown a m c news hl hnews h1 hroom
      rw [hr] at hr2
      obtain ⟨rfl, rfl⟩ : v' = _ ∧ w' = w2 := by simpa using hr2
      exact .inl rfl
    · subst hsize
      subst hby
      have holds : ∀ j u, xs[j]? = some u → w.cell? ((⟨g, 0, none⟩ : Addr).add j) = some u := hown.cells (g := g) rfl
      have hr2 := run_append_grow (P := P) w t ty e i z ht hi hz ⟨g, 0, none⟩ n cap xs hown.1 holds a m c news hl hnews (by omega) (by simp only [maxLen] at h63; omega) (growslice_fits (by omega) hbytes)
      rw [hr] at hr2
      obtain ⟨rfl, rfl⟩ : v' = _ ∧ w' = _ := by simpa using hr2
      exact .inr ⟨_, rfl, Nat.le_refl _⟩

theorem wpList_append_grew {P : Program} (w : World) {ops : Array Oper} {rest : List Oper} {o : Oper} {a : Act} {Q : Exit → Act → World → Prop}
    (hg : o.guard = none) (s x : Operand) (t : TypeId) (hop : o.op = Op.call { callee := Callee.builtin Builtin.append, args := #[s, x], argTypes := #[t, t] })
    (base : Nat) (e : TypeId) (z : Value) (size bytes : Nat) (ht : P.underlying t = some (.slice e)) (hinfo : (P.info? e).map (fun i => (i.zero, i.size, i.bytes)) = some (some z, size, bytes)) (hzs : z.cells.size = size) (hsz : 0 < size)
    (v : Value) (n : Nat) (xs : List Value) (hs : a.eval s = v) (hown : w.ownsRow base e size v n xs) (ad : Addr) (m c : Nat) (news : List Value) (hx : a.eval x = .slice (some ad) m c) (hn : news.length = m * size)
    (hc : ∀ j u, news[j]? = some u → w.cell? (ad.add j) = some u) (h1c : ∀ u ∈ news, u.oneCell' = true)
    (h63 : n + m ≤ maxLen) (hbytes : (n + m) * bytes ≤ 140737488355328) (hbase : base ≤ w.heap.size)
    (hK : ∀ v' w', w'.ownsRow base e size v' (n + m) (xs ++ news) → Grew w w' v v' → wpList P ops Q rest (a.put o.dst v') w') :
    wpList P ops Q (o :: rest) a w := by
  obtain ⟨i, hi, hz0, hz1, hz2⟩ := info_parts hinfo
  obtain ⟨v', w', hr, h2, h3⟩ := run_append_grew P w base t o.type e i z size bytes ht hi hz0 hz1 hz2 hzs hsz v n xs hown ad m c news hn hc h1c h63 hbytes hbase
  refine wpList_plain hg fun K hK' => ?_
  unfold Oper.wp
  simp [execOp, hop, resolve, invoke, builtin, hs, hx, hr, Result.andThen]
  exact hK' _ _ (hK v' w' h2 h3)
theorem one_cell (w : World) (x : Value) (t : TypeId) : ∀ j u, [x][j]? = some u → (w.alloc (.cells #[x] t)).cell? ((⟨w.heap.size, 0, none⟩ : Addr).add j) = some u := by
  intro j u hu
  cases j with
  | zero =>
    rw [Addr.add_lit]
    have h := World.rowIs_alloc w #[x] t (fun _ => x) (fun i hi => by simp at hi; subst hi; rfl)
    exact (h.cell (i := 0) (by simp)).trans hu
  | succ j => simp at hu
/-- The cells of a list of numbers. -/
def natL (l : List Nat) : List Value := l.map fun (x : Nat) => .int .i64 (x : Int)
theorem natL_snoc (l : List Nat) (x : Nat) : natL (l ++ [x]) = natL l ++ [.int .i64 (x : Int)] := by simp [natL]
theorem natL_length (l : List Nat) : (natL l).length = l.length := by simp [natL]

/-- The call returned a row that had been v. -/
def RetG (e : Ending) (base : Nat) (w w' : World) (v : Value) (xs : List Nat) : Prop := ∃ v', e = .returned v' ∧ w'.ownsRow base 3 1 v' xs.length (natL xs) ∧ Grew w w' v v'
def refN (l : List (Int × Int)) : List Nat := l.map fun p => p.1.toNat

set_option maxRecDepth 100000 in
set_option maxHeartbeats 1000000 in
theorem appendRefNodes_any (lo c : Nat) (a : Option Addr) (l : List (Int × Int)) (xs : List Nat) (v : Value) (w0 w : World) (h0 : RdR lo w0 (.slice a l.length c) l) (hB : Below w0.heap.size w0 w)
    (hown : w.ownsRow w0.heap.size 3 1 v xs.length (natL xs)) (hp : ∀ i, i < l.length → 0 ≤ (l.getD i (0, 0)).1) (hl : xs.length + l.length ≤ 100000000) :
    Calls Try.prog 20 #[v, .slice a l.length c] w fun e w' => RetG e w0.heap.size w w' v (xs ++ refN l) := by
  have hat := (h0.at).2
  clear h0
  go_enter Try.func20, Try.ntmps20
  go_wp2
  go_loopw [0, 5] (fun u i wr => ∃ m : Nat, m ≤ l.length ∧ i = .int .i64 m ∧ wr.ownsRow w0.heap.size 3 1 u (xs ++ refN (l.take m)).length (natL (xs ++ refN (l.take m))) ∧ Grew w wr v u) (fun _ i _ => l.length - (intOf i).toNat)
  case atStart => exact ⟨0, Nat.zero_le _, rfl, by simpa [refN] using hown, Grew.refl _ _⟩
  case round =>
    obtain ⟨m, hm, rfl, hown2, hgr⟩ := hrel
    by_cases hlt : m < l.length
    · rcases hat with rfl | ⟨b, o, rfl, _, hb, hc⟩
      · simp at hlt
      obtain ⟨g1, _⟩ := hc m hlt
      have hob := hown.lt
      have hbw := hgr.below hB hB.size (fun k hk => (hob k hk).1)
      have g1' := (hbw.cell (p := ⟨b, o + m * 2, none⟩) hb).trans g1
      have hst : refN (l.take (m + 1)) = refN (l.take m) ++ [(l.getD m (0, 0)).1.toNat] := by
        unfold refN
        rw [List.take_add_one, List.map_append]
        simp [List.getD, hlt]
      have hpm := hp m hlt
      have hlen : (xs ++ refN (l.take m)).length = xs.length + m := by simp [refN]; omega
      clear g1 hc
      
      have hone := fun (wa : World) (x : Value) => one_cell wa x 3
      have hsz := hgr.grown.size
      have hBs := hB.size
      obtain ⟨x, hx⟩ : ∃ x : Nat, (l.getD m (0, 0)).1 = (x : Int) := ⟨(l.getD m (0, 0)).1.toNat, by omega⟩
      rw [hx] at g1' hst
      rw [Int.toNat_natCast] at hst
      have hown3 := hown2.alloc (.cells #[.int .i64 (x : Int)] 3)
      have hal : w0.heap.size ≤ (wr.alloc (.cells #[.int .i64 (x : Int)] 3)).heap.size := by simp; omega
      go_wp2_with (at_builtin; refine wpList_append_grew _ rfl _ _ 28 rfl w0.heap.size 3 _ 1 8 Try.underlying28 Try.info3 rfl (by omega) _ _ _ rfl hown3 _ _ _ [.int .i64 (x : Int)] rfl rfl (hone _ _) (by simp [Value.oneCell']) (by unfold maxLen; omega) (by omega) hal ?_)
      intro v' w' hown' hgr'
      have hgr2 := (hgr.alloc (.cells #[.int .i64 (x : Int)] 3)).trans hgr'
      go_wp2
      go_roundw
      case rel => exact ⟨m + 1, by omega, by go_num, by rw [hst, ← List.append_assoc, natL_snoc, List.length_append, hlen]; exact hown', hgr2⟩
      case measure => simp [intOf]; omega
    · obtain rfl : m = l.length := by omega
      go_wp2
      go_ret
      exact ⟨_, rfl, by rw [List.take_length] at hown2; exact hown2, hgr⟩
end Go.Proofs.Qxb6602369a
