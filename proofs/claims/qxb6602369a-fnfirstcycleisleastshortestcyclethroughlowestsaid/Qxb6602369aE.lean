import Derived.Test.Qxb6602369aD
import Derived.OwnWalk
import Derived.Lib.AppendZerosOnto
namespace Go.Proofs.Qxb6602369a
open Go.RowKit

theorem run_append_none_any (P : Program) (w : World) (base : Nat) (t ty e : TypeId) (i : TypeInfo) (size : Nat) (ht : P.underlying t = some (.slice e)) (hi : P.info? e = some i)
    (v : Value) (n c : Nat) (xs : List Value) (hown : w.ownsRow base e size v n xs) :
    (Builtin.append_ #[t, t] ty #[v, .slice none 0 c]).run P w = .ok v w := by
  rcases hown.2 with ⟨rfl, rfl⟩ | ⟨g, cap, cur, rfl, _, _, hnc, _⟩
  · simp [Builtin.append_, run_underlying ht, sizeOf, typeInfo, hi, Builtin.lenOf, Builtin.firstCells]
  · simp [Builtin.append_, run_underlying ht, sizeOf, typeInfo, hi, Builtin.lenOf, Builtin.firstCells, hnc, storeCells]

/-- append onto a row of the call's own, whatever the address of what is appended. -/
theorem wpList_append_any {P : Program} (w : World) {ops : Array Oper} {rest : List Oper} {o : Oper} {a : Act} {Q : Exit → Act → World → Prop}
    (hg : o.guard = none) (s x : Operand) (t : TypeId) (hop : o.op = Op.call { callee := Callee.builtin Builtin.append, args := #[s, x], argTypes := #[t, t] })
    (base : Nat) (e : TypeId) (z : Value) (size bytes : Nat) (ht : P.underlying t = some (.slice e)) (hinfo : (P.info? e).map (fun i => (i.zero, i.size, i.bytes)) = some (some z, size, bytes)) (hzs : z.cells.size = size) (hsz : 0 < size)
    (v : Value) (n : Nat) (xs : List Value) (hs : a.eval s = v) (hown : w.ownsRow base e size v n xs) (ao : Option Addr) (m c : Nat) (news : List Value) (hx : a.eval x = .slice ao m c) (hn : news.length = m * size)
    (hnone : ao = none → m = 0) (hc : ∀ ad, ao = some ad → ∀ j u, news[j]? = some u → w.cell? (ad.add j) = some u) (h1c : ∀ u ∈ news, u.oneCell' = true)
    (h63 : n + m ≤ maxLen) (hbytes : (n + m) * bytes ≤ 140737488355328) (hbase : base ≤ w.heap.size)
    (hK : ∀ v' w', w'.ownsRow base e size v' (n + m) (xs ++ news) → w.grownBy w' v.ownBlock → wpList P ops Q rest (a.put o.dst v') w') :
    wpList P ops Q (o :: rest) a w := by
  obtain ⟨i, hi, hz0, hz1, hz2⟩ := info_parts hinfo
  cases ao with
  | some ad => exact wpList_append_own w hg s x t hop base e i z size bytes ht hi hz0 hz1 hz2 hzs hsz v n xs hs hown ad m c news hx hn (hc ad rfl) h1c h63 hbytes hbase (fun v' w' h1 h2 _ => hK v' w' h1 h2)
  | none =>
    obtain rfl := hnone rfl
    have hnews : news = [] := List.eq_nil_of_length_eq_zero (by simpa using hn)
    subst hnews
    refine wpList_plain hg fun K hK' => ?_
    have hrun := run_append_none_any P w base t o.type e i size ht hi v n c xs hown
    unfold Oper.wp
    simp [execOp, hop, resolve, invoke, builtin, hs, hx, hrun, Result.andThen]
    exact hK' _ _ (by simpa using hK v w (by simpa using hown) (World.grownBy.refl _ _))

/-- The cells of a list of Refs. -/
def refL : List (Int × Int) → List Value
  | [] => []
  | p :: l => .int .i64 p.1 :: .int .i64 p.2 :: refL l
theorem refL_length (l : List (Int × Int)) : (refL l).length = l.length * 2 := by
  induction l with
  | nil => rfl
  | cons p l ih => simp only [refL, List.length_cons, ih]; omega
theorem refL_append (l m : List (Int × Int)) : refL (l ++ m) = refL l ++ refL m := by
  induction l with
  | nil => rfl
  | cons p l ih => simp only [refL, List.cons_append, ih]
theorem refL_at (l : List (Int × Int)) (k : Nat) (hk : k < l.length) : (refL l)[k * 2]? = some (.int .i64 (l.getD k (0, 0)).1) ∧ (refL l)[k * 2 + 1]? = some (.int .i64 (l.getD k (0, 0)).2) := by
  induction l generalizing k with
  | nil => exact absurd hk (by simp)
  | cons p l ih =>
    cases k with
    | zero => simp [refL]
    | succ k =>
      have h := ih k (by simpa using hk)
      rw [(by omega : (k + 1) * 2 = k * 2 + 1 + 1)]
      simp only [refL, List.getElem?_cons_succ, List.getD_cons_succ]
      exact h
theorem refL_one (l : List (Int × Int)) : ∀ u ∈ refL l, u.oneCell' = true := by
  induction l with
  | nil => intro u hu; cases hu
  | cons p l ih =>
    intro u hu
    simp only [refL, List.mem_cons] at hu
    rcases hu with rfl | rfl | h
    · rfl
    · rfl
    · exact ih u h
theorem RdR.of_owns {w : World} {base t n : Nat} {v : Value} {l : List (Int × Int)} (h : w.ownsRow base t 2 v n (refL l)) : RdR base w v l := by
  have hn := h.1
  rw [refL_length] at hn
  obtain rfl : n = l.length := by omega
  rcases h.2 with ⟨rfl, h0⟩ | ⟨g, cap, cur, rfl, hbg, hg, _, _, _, _⟩
  · have : l = [] := List.eq_nil_of_length_eq_zero h0
    subst this
    exact RdR.nil _ _ _ _
  · refine ⟨_, _, rfl, fun _ => ⟨g, 0, rfl, hbg, (Array.getElem?_eq_some_iff.1 hg).1, fun i hi => ?_⟩⟩
    rw [Nat.zero_add, h.cellAt _ (by omega), h.cellAt _ (by omega)]
    exact refL_at l i hi
theorem RdR.src {lo : Nat} {w : World} {a : Option Addr} {c : Nat} {l : List (Int × Int)} (h : RdR lo w (.slice a l.length c) l) : (a = none → l.length = 0) ∧ ∀ ad, a = some ad → ∀ j u, (refL l)[j]? = some u → w.cell? (ad.add j) = some u := by
  rcases h.at.2 with rfl | ⟨b, o, rfl, _, _, hc⟩
  · exact ⟨fun _ => rfl, fun _ _ j u hu => by simp [refL] at hu⟩
  · refine ⟨(fun h => by cases h), fun ad had j u hu => ?_⟩
    cases had
    have hj : j < l.length * 2 := by
      have := (List.getElem?_eq_some_iff.1 hu).1
      rwa [refL_length] at this
    have h1 := refL_at l (j / 2) (by omega)
    have h2 := hc (j / 2) (by omega)
    rw [Addr.add_lit]
    rcases (by omega : j % 2 = 0 ∨ j % 2 = 1) with e | e
    · have ej : j = j / 2 * 2 := by omega
      rw [ej] at hu ⊢
      rw [h1.1] at hu
      rw [h2.1]; exact hu
    · have ej : j = j / 2 * 2 + 1 := by omega
      rw [ej] at hu ⊢
      rw [h1.2] at hu
      rw [← Nat.add_assoc, h2.2]; exact hu

/-- The call returned a row of its own. -/
def RetO (e : Ending) (base t size n : Nat) (w : World) (xs : List Value) : Prop := ∃ v, e = .returned v ∧ w.ownsRow base t size v n xs

set_option maxRecDepth 100000 in
set_option maxHeartbeats 400000 in
theorem grow_any (n : Nat) (w : World) (hn : n ≤ 1048576) :
    Calls Try.prog 46 #[.slice none 0 0, .int .i64 n] w fun e w' => RetO e w.heap.size 49 2 0 w' [] ∧ Below w.heap.size w w' := by
  obtain ⟨i, hi, hz0, hz1, hz2⟩ := info_parts Try.info49
  by_cases h0 : n = 0
  · subst h0
    go_enter Try.func46, Try.ntmps46
    go_wp2
    go_ret
    exact ⟨⟨_, rfl, World.ownsRow_nil _ _ _ _⟩, Below.refl _ _⟩
  have hold : (Builtin.firstCells i.size 0 (.slice none 0 0)).run Try.prog w.drew = .ok ([] : List Value).toArray w.drew := run_firstCells_none w.drew i.size 0 0 0
  have hrz : ∀ ty, (Builtin.append_ #[41, 3] ty #[.slice none 0 0, .int .i64 (n : Int)]).run Try.prog w = _ := fun ty =>
    Lib.run_append_grow_zeros w 41 3 ty 49 i _ .i64 .i64 Try.underlying41 Try.underlying3 hi hz0 none 0 0 [] hold n (by omega) (by omega) (by omega) (by omega) (by rw [hz2]; omega) (by rw [hz2]; exact growslice_fits (by omega) (by omega))
  rw [Nat.zero_add] at hrz
  have hGn : n ≤ grownCap w n 0 49 := grownCap_ge w _ _ _
  have hG63 := grownCap_le_maxLen w n 0 49 (by unfold maxLen; omega)
  obtain ⟨G, hG⟩ : ∃ G, G = grownCap w n 0 49 := ⟨_, rfl⟩
  rw [← hG] at hrz hGn hG63
  have hG64 : G ≤ 9223372036854775807 := by unfold maxLen at hG63; omega
  have h1 : ¬ ((n : Int) < 0) := by omega
  have h4 : ((n : Int) > 0) := by omega
  clear hold hG
  go_enter Try.func46, Try.ntmps46
  go_wp2_with (at_builtin; refine Lib.wpList_append_run _ rfl _ _ _ _ rfl _ _ rfl rfl _ _ (hrz _) ?_)
  all_goals (go_ret; exact ⟨⟨_, rfl, World.ownsRow_made w.drew _ G (Nat.le_refl _) hG63 (by simp [size_zeroCells]; omega)⟩, ((Below.refl _ _).drew).alloc (Nat.le_refl _) _⟩)

theorem flat_step (P : List (List (Int × Int))) (m : Nat) (hm : m < P.length) : (P.take (m + 1)).flatten = (P.take m).flatten ++ P.getD m [] := by
  rw [List.take_add_one, List.flatten_append]
  simp [List.getD, hm]
theorem flat_len (P : List (List (Int × Int))) (m : Nat) (hm : m ≤ P.length) : (P.take m).flatten.length = ptW P m := by
  induction m with
  | zero => simp [ptW]
  | succ m ih => rw [flat_step P m hm, List.length_append, ih (by omega)]; rfl

set_option maxRecDepth 100000 in
set_option maxHeartbeats 1000000 in
theorem concat_any (lo c : Nat) (a : Option Addr) (P : List (List (Int × Int))) (w : World) (hR : RdP lo w (.slice a P.length c) P) (hl : P.length ≤ 1048576) (hW : ptW P P.length ≤ 1048576) :
    Calls Try.prog 41 #[.slice a P.length c] w fun e w' => RetO e w.heap.size 49 2 (ptW P P.length) w' (refL P.flatten) ∧ Below w.heap.size w w' := by
  have hat := (hR.at).2
  clear hR
  go_enter Try.func41, Try.ntmps41
  go_wp2
  go_loop [3, 11] (fun v i => ∃ m : Nat, m ≤ P.length ∧ i = .int .i64 m ∧ v = .int .i64 (ptW P m : Nat)) (fun _ i => P.length - (intOf i).toNat)
  case atStart => exact ⟨0, Nat.zero_le _, rfl, rfl⟩
  case round =>
    obtain ⟨m, hm, rfl, rfl⟩ := hrel
    by_cases hlt : m < P.length
    · rcases hat with rfl | ⟨b, o, rfl, _, _, hc⟩
      · simp at hlt
      obtain ⟨a1, c1, g1, _⟩ := hc m hlt
      clear hc
      have hmo := ptW_mono P (show m + 1 ≤ P.length by omega)
      have hst : ptW P (m + 1) = ptW P m + (P.getD m []).length := rfl
      generalize (P.getD m []).length = x at g1 hst
      have hd : decide ((ptW P m : Int) + (x : Int) < 0) = false := decide_eq_false (by omega)
      go_wp2
      go_round
      case rel => exact ⟨m + 1, by omega, by go_num, by rw [hst]; go_num⟩
      case measure => simp [intOf]; omega
    · obtain rfl : m = P.length := by omega
      have hF := grow_any (ptW P P.length) w hW
      go_wp2_with fail
      refine hF.mono ?_
      clear hF
      rintro e w1 ⟨⟨v, rfl, hv⟩, hb1⟩
      go_wp2
      go_loopw [6, 27] (fun v i wr => ∃ m : Nat, m ≤ P.length ∧ i = .int .i64 m ∧ wr.ownsRow w.heap.size 49 2 v (ptW P m) (refL (P.take m).flatten) ∧ Below w.heap.size w wr) (fun _ i _ => P.length - (intOf i).toNat)
      case atStart => exact ⟨0, Nat.zero_le _, rfl, by simpa [refL, ptW] using hv, hb1⟩
      case round =>
        obtain ⟨m, hm, rfl, hown, hbw⟩ := hrel
        by_cases hlt2 : m < P.length
        · rcases hat with rfl | ⟨b, o, rfl, _, hb, hc⟩
          · simp at hlt2
          obtain ⟨a1, c1, g1, r1⟩ := hc m hlt2
          clear hc
          have hmo := ptW_mono P (show m + 1 ≤ P.length by omega)
          have hst : ptW P (m + 1) = ptW P m + (P.getD m []).length := rfl
          have hfl := flat_step P m hlt2
          have g1' := (hbw.cell (p := ⟨b, o + m, none⟩) hb).trans g1
          have r1' := r1.keep (Kp.of_below hbw lo)
          clear g1 r1
          generalize P.getD m [] = q at g1' r1' hst hfl
          have hsrc := r1'.src
          have hob := hown.lt
          have hlen := refL_length q
          go_wp2_with (at_builtin; refine wpList_append_any _ rfl _ _ 41 rfl w.heap.size 49 _ 2 16 Try.underlying41 Try.info49 rfl (by omega) _ _ _ rfl hown _ _ _ (refL q) rfl hlen hsrc.1 hsrc.2 (refL_one q) (by unfold maxLen; omega) (by omega) (hbw.size) ?_)
          intro v' w' hown' hgr
          have hbw' := hbw.grown hgr hbw.size (fun k hk => (hob k hk).1)
          go_wp2
          go_roundw
          case rel => exact ⟨m + 1, by omega, by go_num, by rw [hfl, refL_append, hst]; exact hown', hbw'⟩
          case measure => simp [intOf]; omega
        · obtain rfl : m = P.length := by omega
          go_wp2
          go_ret
          exact ⟨⟨_, rfl, by rw [List.take_length] at hown; exact hown⟩, hbw⟩

/-- The cells of a slice of slices, as a list. -/
theorem RdP.vals {lo : Nat} {w : World} {a : Option Addr} {c : Nat} {P : List (List (Int × Int))} (h : RdP lo w (.slice a P.length c) P) : ∃ us : List Value, us.length = P.length ∧ (a = none → P.length = 0) ∧ (∀ ad, a = some ad → ∀ j u, us[j]? = some u → w.cell? (ad.add j) = some u) ∧
    (∀ u ∈ us, u.oneCell' = true) ∧ ∀ i, i < P.length → ∃ u, us[i]? = some u ∧ RdR lo w u (P.getD i []) := by
  rcases h.at.2 with rfl | ⟨b, o, rfl, _, _, hc⟩
  · exact ⟨[], rfl, fun _ => rfl, fun _ _ j u hu => by simp at hu, fun u hu => by simp at hu, fun i hi => by simp at hi⟩
  · have hx : ∀ i, i < P.length → ∃ u, w.cell? ⟨b, o + i, none⟩ = some u ∧ RdR lo w u (P.getD i []) := fun i hi => by
      obtain ⟨a1, c1, g1, r1⟩ := hc i hi
      exact ⟨_, g1, r1⟩
    refine ⟨(List.range P.length).map (fun i => (w.cell? ⟨b, o + i, none⟩).getD (.slice none 0 0)), by simp, (fun h => by cases h), fun ad had j u hu => ?_, fun u hu => ?_, fun i hi => ?_⟩
    · cases had
      have hj : j < P.length := by
        have := (List.getElem?_eq_some_iff.1 hu).1
        simpa using this
      obtain ⟨v, hv, _⟩ := hx j hj
      rw [Addr.add_lit, hv]
      simp [hj, hv] at hu
      rw [hu]
    · obtain ⟨i, hi, rfl⟩ := List.mem_map.1 hu
      obtain ⟨v, hv, hr⟩ := hx i (List.mem_range.1 hi)
      rw [hv]
      obtain ⟨a1, c1, rfl, _⟩ := hr
      rfl
    · obtain ⟨v, hv, hr⟩ := hx i hi
      exact ⟨v, by simp [hi, hv], hr⟩
theorem ptW_cons (N : List (Int × Int)) (P : List (List (Int × Int))) (k : Nat) : ptW (N :: P) (k + 1) = N.length + ptW P k := by
  induction k with
  | zero => simp [ptW]
  | succ k ih => rw [show ptW (N :: P) (k + 1 + 1) = ptW (N :: P) (k + 1) + ((N :: P).getD (k + 1) []).length from rfl, ih, List.getD_cons_succ]; simp only [ptW]; omega

set_option maxRecDepth 100000 in
set_option maxHeartbeats 1000000 in
theorem allNeeds_any (lo c1 c2 : Nat) (a1 a2 : Option Addr) (N : List (Int × Int)) (P : List (List (Int × Int))) (L : Bool) (w : World) (hN : RdR lo w (.slice a1 N.length c1) N) (hP : RdP lo w (.slice a2 P.length c2) P)
    (hlo : lo ≤ w.heap.size) (hl : P.length ≤ 1000000) (hW : N.length + ptW P P.length ≤ 1000000) :
    Calls Try.prog 32 #[.agg #[.slice a1 N.length c1, .slice a2 P.length c2, .bool L]] w fun e w' => RetR e w.heap.size w' (N ++ P.flatten) ∧ Below w.heap.size w w' := by
  obtain ⟨us, hus, hsn, hsc, hso, hsr⟩ := hP.vals
  have hb2 : Below w.heap.size w ((w.alloc (.cells #[.slice a1 N.length c1, .slice a2 P.length c2, .bool L] 45)).alloc (.cells #[.slice a1 N.length c1] 41)) :=
    ((Below.refl _ _).alloc (Nat.le_refl _) _).alloc (by simp) _
  have hown := World.ownsRow_lit (base := w.heap.size) (e := 41) (size := 1) (w.alloc (.cells #[.slice a1 N.length c1, .slice a2 P.length c2, .bool L] 45)) #[.slice a1 N.length c1] 1 (by simp) (by unfold maxLen; omega) rfl
  have hsz1 : (w.alloc (.cells #[.slice a1 N.length c1, .slice a2 P.length c2, .bool L] 45)).heap.size = w.heap.size + 1 := by simp
  rw [hsz1] at hown
  have hsc2 : ∀ ad, a2 = some ad → ∀ j u, us[j]? = some u → ((w.alloc (.cells #[.slice a1 N.length c1, .slice a2 P.length c2, .bool L] 45)).alloc (.cells #[.slice a1 N.length c1] 41)).cell? (ad.add j) = some u := fun ad had j u hu =>
    (hb2.cell (World.block_lt_of_cell? w _ (hsc ad had j u hu))).trans (hsc ad had j u hu)
  have hal : w.heap.size ≤ ((w.alloc (.cells #[.slice a1 N.length c1, .slice a2 P.length c2, .bool L] 45)).alloc (.cells #[.slice a1 N.length c1] 41)).heap.size := hb2.size
  clear hP
  go_enter Try.func32, Try.ntmps32
  go_wp2_with (at_builtin; refine wpList_append_any _ rfl _ _ 43 rfl w.heap.size 41 _ 1 24 Try.underlying43 Try.info41 rfl (by omega) _ _ _ rfl hown _ _ _ us rfl (by omega) hsn hsc2 hso (by unfold maxLen; omega) (by omega) hal ?_)
  intro v' w1 hown' hgr
  have hb1 : Below w.heap.size w w1 := hb2.grown hgr hb2.size (fun k hk => by cases hk; simp)
  clear hown hgr hsc hsc2 hb2
  rcases hown'.2 with ⟨_, h0⟩ | ⟨g, cap, cur, rfl, hbg, hg, _, _, _, _⟩
  · omega
  have hRP : RdP lo w1 (.slice (some ⟨g, 0, none⟩) (N :: P).length cap) (N :: P) := by
    refine ⟨_, _, rfl, fun _ => ⟨g, 0, rfl, by omega, (Array.getElem?_eq_some_iff.1 hg).1, fun i hi => ?_⟩⟩
    rw [List.length_cons] at hi
    rw [Nat.zero_add, hown'.cellAt i (by omega)]
    cases i with
    | zero => exact ⟨_, rfl, hN.keep (Kp.of_below hb1 lo)⟩
    | succ i =>
      obtain ⟨u, hu, hr⟩ := hsr i (by omega)
      exact ⟨u, by simpa using hu, by simpa using hr.keep (Kp.of_below hb1 lo)⟩
  have hpw := ptW_cons N P P.length
  have hF := concat_any lo cap (some ⟨g, 0, none⟩) (N :: P) w1 hRP (by rw [List.length_cons]; omega) (by rw [List.length_cons, hpw]; omega)
  rw [show (N :: P).length = 1 + P.length by rw [List.length_cons]; omega] at hF
  go_wp2_with fail
  refine hF.mono ?_
  clear hF hRP
  rintro e w2 ⟨⟨v2, rfl, hv2⟩, hb2⟩
  have hR2 := (RdR.of_owns hv2).lower hb1.size
  have HS : Hid (∃ a c, v2 = .slice a (N ++ P.flatten).length c) := by
    obtain ⟨a3, c3, h, _⟩ := hR2
    exact ⟨a3, c3, h⟩
  have HR : Hid (RdR w.heap.size w2 v2 (N ++ P.flatten)) := hR2
  clear hv2 hR2
  go_wp2
  go_ret
  obtain ⟨a3, c3, rfl⟩ := HS.out
  exact ⟨⟨_, _, rfl, HR.out⟩, hb1.trans (hb2.mono hb1.size)⟩
end Go.Proofs.Qxb6602369a
