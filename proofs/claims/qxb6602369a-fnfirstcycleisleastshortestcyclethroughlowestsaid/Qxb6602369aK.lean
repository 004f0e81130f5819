import Derived.Test.Qxb6602369aY
import Derived.Test.Qxb6602369aW
import Derived.Test.Qxb6602369aJ
import Derived.Deep.RegionLaw
namespace Go.Proofs.Qxb6602369a
open Go.RowKit

section
variable {w : World} {base n g off cap : Nat} {f : Nat → Nat} {v : Value}
theorem Que.tail (h : Que w base (.slice (some ⟨g, off, none⟩) (n + 1) cap) (n + 1) f) : Que w base (.slice (some ⟨g, off + 1, none⟩) n (cap - 1)) n (fun j => f (j + 1)) := by
  obtain ⟨g', off', cap', N, F, e, h1, h2, h3, h4, h5, h6⟩ := h
  cases e
  exact ⟨g, off + 1, cap - 1, N, F, rfl, h1, h2, by omega, by omega, by omega, fun j hj => by rw [show off + 1 + j = off + (j + 1) by omega]; exact h6 (j + 1) (by omega)⟩
theorem Que.cell (h : Que w base (.slice (some ⟨g, off, none⟩) n cap) n f) {j : Nat} (hj : j < n) : w.cell? ⟨g, off + j, none⟩ = some (.int .i64 (f j : Nat)) := by
  obtain ⟨g', off', cap', N, F, e, h1, h2, h3, h4, h5, h6⟩ := h
  cases e
  rw [h2.cell (by omega), h6 j hj]
theorem Que.form (h : Que w base v n f) : ∃ g off cap, v = .slice (some ⟨g, off, none⟩) n cap ∧ n ≤ cap ∧ base ≤ g ∧ g < w.heap.size ∧ cap ≤ maxLen := by
  obtain ⟨g', off', cap', N, F, e, h1, h2, h3, h4, h5, h6⟩ := h
  exact ⟨g', off', cap', e, h4, h1, h2.lt, h5⟩
theorem Que.one (w : World) (s : Nat) : Que (w.alloc (.cells #[.int .i64 (s : Nat)] 3)) w.heap.size (.slice (some ⟨w.heap.size, 0, none⟩) 1 1) 1 (fun _ => s) :=
  ⟨w.heap.size, 0, 1, 1, fun _ => .int .i64 (s : Nat), rfl, Nat.le_refl _, rowIs_one w _ 3 _ rfl, rfl, Nat.le_refl _, by unfold maxLen; omega, fun _ _ => rfl⟩
end

theorem reverse_any (base g cap : Nat) (xs : List Nat) (w : World) (hown : w.ownsRow base 3 1 (.slice (some ⟨g, 0, none⟩) xs.length cap) xs.length (natL xs)) (hl : xs.length ≤ 100000000) :
    Calls Try.prog 36 #[.slice (some ⟨g, 0, none⟩) xs.length cap] w fun e w' => e = .returned (.tuple #[]) ∧ w'.ownsRow base 3 1 (.slice (some ⟨g, 0, none⟩) xs.length cap) xs.length (natL xs.reverse) ∧ Grew w w' (.slice (some ⟨g, 0, none⟩) xs.length cap) (.slice (some ⟨g, 0, none⟩) xs.length cap) := by
  have hown' := hown
  rw [natL_eq] at hown'
  obtain ⟨hH, hlen, hgl, hcap⟩ := owns_holds hown'
  have hF := Try.slices_Reverse_int g 0 cap (xs.map fun (x : Nat) => (x : Int)) w hH (by rw [hlen]; omega)
  rw [hlen] at hF
  refine hF.mono ?_
  rintro e w' ⟨rfl, n, rfl⟩
  refine ⟨rfl, ?_, grew_put rfl rfl rfl (by simp [Sort.putRow, Sort.mapBlock, Sort.ahead]) (fun k h1 h2 => by rw [putRow_other _ _ _ _ h2]; rfl)⟩
  have := owns_put (w' := Sort.putRow (Value.int .i64) (Sort.ahead w n) g 0 (xs.map fun (x : Nat) => (x : Int)).reverse.toArray) (m := xs.length) hown (d := (xs.map fun (x : Nat) => (x : Int)).reverse.toArray) (by simp) (Nat.le_refl _) rfl
  rw [List.take_of_length_le (by simp)] at this
  rw [natL_eq, List.map_reverse]
  exact this

/-- The walk breadth first from s, in memory: the row 'from' at block F, the queue behind it. -/
structure FS (n : Nat) (w2 wr : World) (ns : Nat → List Nat) (s : Nat) (v : Value) (q p : Nat → Nat) (m i k : Nat) (fr : Nat → Int) : Prop where
  bel : Below w2.heap.size w2 wr
  row : wr.rowIs w2.heap.size 3 n (fun x => .int .i64 (fr x))
  que : Que wr (w2.heap.size + 1) v (m - i) (fun j => q (i + j))
  bfs : Bfs ns s q m p i k
  frm : Frm n q m p fr
  ilt : i < m
  lt : ∀ t, t < m → q t < n

section
variable {n : Nat} {w2 wr : World} {ns : Nat → List Nat} {s : Nat} {v : Value} {q p : Nat → Nat} {m i k : Nat} {fr : Nat → Int}
theorem FS.size (S : FS n w2 wr ns s v q p m i k fr) : w2.heap.size + 1 ≤ wr.heap.size := S.row.lt
theorem FS.le (S : FS n w2 wr ns s v q p m i k fr) : m ≤ n := pigeon n m q S.lt S.bfs.inj
theorem FS.start {w3 : World} (hs : s < n) (hb : Below w2.heap.size w2 w3) (hr : w3.rowIs w2.heap.size 3 n (fun _ => .int .i64 (-1))) :
    FS n w2 (w3.alloc (.cells #[.int .i64 (s : Nat)] 3)) ns s (.slice (some ⟨w3.heap.size, 0, none⟩) 1 1) (fun _ => s) (fun _ => 0) 1 0 0 (fun _ => -1) where
  bel := hb.alloc (by have := hr.lt; omega) _
  row := hr.alloc _
  que := (Que.one w3 s).mono hr.lt
  bfs := Bfs.start ns s _
  frm := Frm.start n _ _
  ilt := by omega
  lt := fun _ _ => hs
theorem FS.skip (S : FS n w2 wr ns s v q p m i k fr) {y : Nat} (hy : (ns (q i))[k]? = some y) (hs : y ≠ s) (hyn : y < n) (h : 0 ≤ fr y) : FS n w2 wr ns s v q p m i (k + 1) fr :=
  { S with bfs := S.bfs.skip hy hs (S.frm.met hyn h) }
theorem FS.push (S : FS n w2 wr ns s v q p m i k fr) (hsort : (ns (q i)).Pairwise (· < ·)) {y : Nat} (hy : (ns (q i))[k]? = some y) (hs : y ≠ s) (hyn : y < n) (h : fr y < 0) {w' : World} {v' : Value}
    (hq : Que w' (w2.heap.size + 1) v' (m - i + 1) (upd (fun j => q (i + j)) (m - i) y)) (hg : Grew ((wr.setCell ⟨w2.heap.size, y, none⟩ (.int .i64 (q i : Nat))).alloc (.cells #[.int .i64 (y : Nat)] 3)) w' v v') :
    FS n w2 w' ns s v' (upd q m y) (upd p m i) (m + 1) i (k + 1) (upd fr y (q i : Nat)) := by
  have hnew := S.frm.new (y := y) (by rw [S.bfs.zero]; exact hs) h
  have hi := S.ilt
  have hsz := S.size
  have e1 : ∀ t, t < m → upd q m y t = q t := fun t ht => upd_other _ _ _ (by omega)
  have e2 : ∀ t, t < m → upd p m i t = p t := fun t ht => upd_other _ _ _ (by omega)
  refine ⟨?_, ?_, ?_, ?_, ?_, by omega, ?_⟩
  · exact hg.below ((S.bel.setCell (by simp) _).alloc (by simp; omega) _) (by simp; omega) (fun g e => by have := (S.que.lt g e).1; omega)
  · have h2 := (S.row.set y (.int .i64 (q i : Nat))).alloc (.cells #[.int .i64 (y : Nat)] 3)
    refine (h2.of_block (hg.grown.block _ (by simp; omega) (fun e => by have := (S.que.lt _ e.symm).1; omega))).congr (fun j _ => ?_)
    show (if j = y then Value.int .i64 (q i : Nat) else Value.int .i64 (fr j)) = Value.int .i64 (upd fr y (q i : Nat) j)
    unfold upd
    split <;> rfl
  · rw [show m + 1 - i = m - i + 1 by omega]
    refine hq.congr fun j hj => ?_
    unfold upd
    by_cases e : j = m - i
    · rw [if_pos e, if_pos (by omega)]
    · rw [if_neg e, if_neg (by omega)]
  · refine S.bfs.push S.ilt (fun a b x z hab ha hb => ?_) hy hs hnew e1 (upd_same _ _ _) e2 (upd_same _ _ _)
    obtain ⟨h1, rfl⟩ := List.getElem?_eq_some_iff.1 ha
    obtain ⟨h2, rfl⟩ := List.getElem?_eq_some_iff.1 hb
    exact List.pairwise_iff_getElem.1 hsort a b h1 h2 hab
  · exact S.frm.push S.bfs.pos (fun t h1 h2 => by have := (S.bfs.par t h1 h2).1; omega) hnew e1 (upd_same _ _ _) e2 (upd_same _ _ _) S.ilt (fun x hx => upd_other _ _ _ hx) (upd_same _ _ _)
  · intro t ht
    by_cases e : t = m
    · rw [e, upd_same]; exact hyn
    · rw [e1 t (by omega)]; exact S.lt t (by omega)
/-- The i-th is through; where s lies on a cycle, there is one more. -/
theorem FS.more (S : FS n w2 wr ns s v q p m i k fr) (hk : (ns (q i)).length ≤ k) (hc : ∃ d, Pth (Edg ns) (d + 1) s s) : i + 1 < m := by
  rcases Nat.lt_or_ge (i + 1) m with h | h
  · exact h
  · exfalso
    have hi := S.ilt
    have hb := S.bfs.next S.ilt hk
    have e : m = i + 1 := by omega
    obtain ⟨d, hd⟩ := hc
    rw [e] at hb
    refine hb.exhaust d 0 (by omega) ?_
    rw [S.bfs.zero]
    exact hd
theorem FS.next {g off cap : Nat} (S : FS n w2 wr ns s (.slice (some ⟨g, off, none⟩) (m - i) cap) q p m i k fr) (hk : (ns (q i)).length ≤ k) (hm : i + 1 < m) : FS n w2 wr ns s (.slice (some ⟨g, off + 1, none⟩) (m - i - 1) (cap - 1)) q p m (i + 1) 0 fr := by
  have hq := S.que
  obtain ⟨d, hd⟩ : ∃ d, m - i = d + 1 := ⟨m - i - 1, by omega⟩
  rw [hd] at hq
  refine ⟨S.bel, S.row, ?_, S.bfs.next S.ilt hk, S.frm, hm, S.lt⟩
  rw [show m - (i + 1) = d by omega, show m - i - 1 = d by omega]
  exact hq.tail.congr fun j _ => by rw [show i + (j + 1) = i + 1 + j by omega]

theorem chn_le (hp : ∀ t, 1 ≤ t → t < m → p t < t) : ∀ (r t : Nat), t < m → Chn p r t → r ≤ t
  | 0, _, _, _ => Nat.zero_le _
  | r + 1, t, ht, ⟨h1, h2⟩ => by
    have := hp t h1 ht
    have := chn_le hp r (p t) (by omega) h2
    omega
/-- The chain, from its end. -/
def chnL (q p : Nat → Nat) (i j : Nat) : List Nat := (List.range j).map fun a => q (anc p a i)
theorem chnL_succ (q p : Nat → Nat) (i j : Nat) : chnL q p i (j + 1) = chnL q p i j ++ [q (anc p j i)] := by
  unfold chnL
  rw [List.range_succ, List.map_append]
  rfl
theorem chnL_length (q p : Nat → Nat) (i j : Nat) : (chnL q p i j).length = j := by simp [chnL]
theorem chnL_rev (q p : Nat → Nat) (i r j : Nat) (hj : j ≤ r) : (chnL q p i (r + 1)).reverse[j]? = some (q (anc p (r - j) i)) := by
  rw [List.getElem?_reverse (by rw [chnL_length]; omega), chnL_length]
  unfold chnL
  rw [List.getElem?_map, List.getElem?_range (by omega), show r + 1 - 1 - j = r - j by omega]
  rfl
theorem FS.chain (S : FS n w2 wr ns s v q p m i k fr) : ∃ r, Chn p r i ∧ r + 1 ≤ n := by
  have hp : ∀ t, 1 ≤ t → t < m → p t < t := fun t h h' => (S.bfs.par t h h').1
  obtain ⟨r, hr⟩ := chn_all hp i S.ilt
  have h1 := chn_le hp r i S.ilt hr
  have h2 := S.le
  have h3 := S.ilt
  exact ⟨r, hr, by omega⟩
theorem FS.up (S : FS n w2 wr ns s v q p m i k fr) (hc : s ∈ ns (q i)) {r : Nat} (hr : Chn p r i) {j : Nat} (hj : j < r) : fr (q (anc p j i)) = (q (anc p (j + 1) i) : Nat) ∧ q (anc p j i) ≠ s ∧ q (anc p j i) < n := by
  have hw := (S.bfs.way S.ilt hc hr j (by omega)).1
  have hch := anc_chn (p := p) j r i (by omega) hr
  obtain ⟨b, hb⟩ : ∃ b, r - j = b + 1 := ⟨r - j - 1, by omega⟩
  rw [hb] at hch
  refine ⟨?_, fun e => ?_, S.lt _ hw⟩
  · rw [anc_step]; exact S.frm.val _ hch.1 hw
  · rw [← S.bfs.zero] at e
    have := S.bfs.inj _ _ hw S.bfs.pos e
    have := hch.1
    omega
theorem FS.top (S : FS n w2 wr ns s v q p m i k fr) {r : Nat} (hr : Chn p r i) : q (anc p r i) = s := by
  have := anc_chn (p := p) r r i (Nat.le_refl _) hr
  rw [Nat.sub_self] at this
  have e : anc p r i = 0 := this
  rw [e]; exact S.bfs.zero
end

/-- What FirstCycle answers. -/
def RetFC (e : Ending) (lo n : Nat) (w' : World) (ns : Nat → List Nat) : Prop :=
  (e = .returned (.slice none 0 0) ∧ NoneTo ns n) ∨ ∃ s r c g cap, s < n ∧ r + 1 ≤ n ∧ e = .returned (.slice (some ⟨g, 0, none⟩) (r + 1) cap) ∧ lo ≤ g ∧ g < w'.heap.size ∧ (∀ j, j ≤ r → w'.cell? ⟨g, j, none⟩ = some (.int .i64 (c j : Nat))) ∧ Cyc ns s r c ∧ NoneTo ns s
theorem RetFC.mk {n lo g cap base r : Nat} {w' : World} {ns ys : Nat → List Nat} {s : Nat} {q p : Nat → Nat} {i : Nat} (hs : s < n) (hr : r + 1 ≤ n) (hl : lo ≤ base)
    (ho : w'.ownsRow base 3 1 (.slice (some ⟨g, 0, none⟩) (r + 1) cap) (r + 1) (natL (chnL q p i (r + 1)).reverse)) (hC : Cyc ns s r (fun j => q (anc p (r - j) i))) (hN : NoneTo ns s) (h : ∀ a x, x ∈ ns a ↔ x ∈ ys a) :
    RetFC (.returned (.slice (some ⟨g, 0, none⟩) (r + 1) cap)) lo n w' ys := by
  have hlt := ho.lt g rfl
  refine .inr ⟨s, r, _, g, cap, hs, hr, rfl, by omega, hlt.2, fun j hj => ?_, hC.congr h, hN.congr h⟩
  rw [ho.cellAt j (by omega)]
  unfold natL
  rw [List.getElem?_map, chnL_rev _ _ _ _ _ hj]
  rfl
/-- The nodes that a node needs, by the text's order. -/
def rawN (d : NodeD) : List Nat := refN (d.needs ++ d.parts.flatten)
/-- Of the first k nodes the rows are in order. -/
def AdjOK (G : List NodeD) (xs : Nat → List Nat) (k : Nat) : Prop := ∀ i, i < k → (xs i).Pairwise (· < ·) ∧ (∀ x, x ∈ xs i ↔ x ∈ rawN (G.getD i nodeZ)) ∧ (xs i).length ≤ 100000
theorem upd_id {α : Type} {f : Nat → α} {i : Nat} {x : α} (h : f i = x) : upd f i x = f := by
  funext j
  by_cases e : j = i
  · subst e; rw [upd_same, h]
  · rw [upd_other _ _ _ e]
theorem upd_upd {α : Type} {f : Nat → α} {i : Nat} {x y : α} : upd (upd f i x) i y = upd f i y := by
  funext j
  by_cases e : j = i
  · subst e; rw [upd_same, upd_same]
  · rw [upd_other _ _ _ e, upd_other _ _ _ e, upd_other _ _ _ e]
theorem refN_step (l : List (Int × Int)) {e x : Nat} (he : e < l.length) (hx : (l.getD e (0, 0)).1 = (x : Int)) : refN (l.take (e + 1)) = refN (l.take e) ++ [x] := by
  unfold refN
  rw [List.take_add_one, List.map_append]
  have h2 : l[e]? = some (l.getD e (0, 0)) := by simp [List.getD, he]
  rw [h2]
  generalize l.getD e (0, 0) = y at hx
  simp [hx]

theorem allNeeds_mem {N : List (Int × Int)} {P : List (List (Int × Int))} {own n : Int} (h1 : RefsOK N own n) (h2 : PartsOK P own n) : ∀ y ∈ N ++ P.flatten, 0 ≤ y.1 ∧ y.1 < n ∧ y.1 ≠ own := by
  intro y hm
  have key : ∀ (l : List (Int × Int)), RefsOK l own n → ∀ y ∈ l, 0 ≤ y.1 ∧ y.1 < n ∧ y.1 ≠ own := fun l hl y hy => by
    obtain ⟨j, hj, rfl⟩ := List.getElem_of_mem hy
    have := hl j hj
    rw [show l.getD j (0, 0) = l[j] by rw [List.getD, List.getElem?_eq_getElem hj]; rfl] at this
    exact this
  rcases List.mem_append.1 hm with h | h
  · exact key N h1 _ h
  · obtain ⟨q, hq, hy⟩ := List.mem_flatten.1 h
    obtain ⟨j, hj, rfl⟩ := List.getElem_of_mem hq
    have := h2 j hj
    rw [show P.getD j [] = P[j] by rw [List.getD, List.getElem?_eq_getElem hj]; rfl] at this
    exact key _ this _ hy
theorem allNeeds_pos {N : List (Int × Int)} {P : List (List (Int × Int))} {own n : Int} (h1 : RefsOK N own n) (h2 : PartsOK P own n) : ∀ i, i < (N ++ P.flatten).length → 0 ≤ ((N ++ P.flatten).getD i (0, 0)).1 := by
  intro i hi
  rw [show (N ++ P.flatten).getD i (0, 0) = (N ++ P.flatten)[i] by rw [List.getD, List.getElem?_eq_getElem hi]; rfl]
  exact (allNeeds_mem h1 h2 _ (List.getElem_mem hi)).1
/-- The graph: whom each needs. -/
def adj (G : List NodeD) (i : Nat) : List Nat := rawN (G.getD i nodeZ)
theorem adj_ok {G : List NodeD} (hOK : NodesOK G) {i x : Nat} (h : x ∈ adj G i) : i < G.length ∧ x < G.length ∧ x ≠ i := by
  by_cases hi : i < G.length
  · obtain ⟨h1, h2⟩ := hOK i hi
    unfold adj rawN refN at h
    obtain ⟨y, hy, rfl⟩ := List.mem_map.1 h
    have := allNeeds_mem h1 h2 y hy
    omega
  · exfalso
    unfold adj at h
    rw [List.getD, List.getElem?_eq_none (by omega)] at h
    simp [nodeZ, rawN, refN] at h
theorem AdjOK.all {G : List NodeD} {xs : Nat → List Nat} (h : AdjOK G xs G.length) (hz : ∀ i, G.length ≤ i → xs i = []) (a x : Nat) : x ∈ xs a ↔ x ∈ adj G a := by
  by_cases ha : a < G.length
  · exact (h a ha).2.1 x
  · rw [hz a (by omega)]
    unfold adj
    rw [List.getD, List.getElem?_eq_none (by omega)]
    simp [nodeZ, rawN, refN]
theorem AdjOK.step {G : List NodeD} {xs : Nat → List Nat} {k : Nat} {zs : List Nat} (h : AdjOK G xs k) (h1 : zs.Pairwise (· < ·)) (h2 : ∀ x, x ∈ zs ↔ x ∈ rawN (G.getD k nodeZ)) (h3 : zs.length ≤ 100000) : AdjOK G (upd xs k zs) (k + 1) := by
  intro i hi
  by_cases e : i = k
  · subst e; rw [upd_same]; exact ⟨h1, h2, h3⟩
  · rw [upd_other _ _ _ e]; exact h i (by omega)

/-- append onto an own row at a step of a region that draws. -/
theorem step_append_grew {P : Program} (w : World) {ops : Array Oper} {o : Oper} {a : Act} {K : Act → World → Prop} {Q : Exit → Act → World → Prop} {E : Prop}
    (hg : o.guard = none) (s x : Operand) (t : TypeId) (hop : o.op = Op.call { callee := Callee.builtin Builtin.append, args := #[s, x], argTypes := #[t, t] })
    (base : Nat) (e : TypeId) (z : Value) (size bytes : Nat) (ht : P.underlying t = some (.slice e)) (hinfo : (P.info? e).map (fun i => (i.zero, i.size, i.bytes)) = some (some z, size, bytes)) (hzs : z.cells.size = size) (hsz : 0 < size)
    (v : Value) (n : Nat) (xs : List Value) (hs : a.eval s = v) (hown : w.ownsRow base e size v n xs) (ad : Addr) (m c : Nat) (news : List Value) (hx : a.eval x = .slice (some ad) m c) (hn : news.length = m * size)
    (hc : ∀ j u, news[j]? = some u → w.cell? (ad.add j) = some u) (h1c : ∀ u ∈ news, u.oneCell' = true)
    (h63 : n + m ≤ maxLen) (hbytes : (n + m) * bytes ≤ 140737488355328) (hbase : base ≤ w.heap.size) (hpos : 0 < n + m)
    (hK : ∀ g cap w', w'.ownsRow base e size (.slice (some ⟨g, 0, none⟩) (n + m) cap) (n + m) (xs ++ news) → Grew w w' v (.slice (some ⟨g, 0, none⟩) (n + m) cap) → K (a.put o.dst (.slice (some ⟨g, 0, none⟩) (n + m) cap)) w') :
    if Region.wanted o (yielded ops a.tmps) = true then Oper.wp P o a w K Q else E := by
  have hw : Region.wanted o (yielded ops a.tmps) = true := by simp [Region.wanted, hg]
  rw [if_pos hw]
  obtain ⟨i, hi, hz0, hz1, hz2⟩ := info_parts hinfo
  obtain ⟨v', w', hr, h2, h3⟩ := run_append_grew P w base t o.type e i z size bytes ht hi hz0 hz1 hz2 hzs hsz v n xs hown ad m c news hn hc h1c h63 hbytes hbase
  unfold Oper.wp
  simp [execOp, hop, resolve, invoke, builtin, hs, hx, hr, Result.andThen]
  rcases h2.2 with ⟨_, h0⟩ | ⟨g, cap, cur, rfl, _⟩
  · omega
  · exact hK g cap w' h2 h3

theorem NR.growRow {B n i : Nat} {w0 w w' : World} {vs : Nat → Value} {xs : Nat → List Nat} {v v' : Value} (h : NR B n w0 w vs xs) (hi : i < n) (hv : vs i = v) (hg : Grew w w' v v') : w'.rowIs B 28 n vs :=
  h.row.of_block (hg.grown.block B (by have := h.size; omega) (fun e => by rw [← hv] at e; have := ((h.own i hi).lt B e.symm).1; omega))
theorem ownsRow_form {w : World} {base e size n : Nat} {v : Value} {xs : List Value} (h : w.ownsRow base e size v n xs) : ∃ a c, v = .slice a n c := by
  rcases h.2 with ⟨rfl, rfl⟩ | ⟨g, cap, cur, rfl, _⟩
  · exact ⟨_, _, rfl⟩
  · exact ⟨_, _, rfl⟩

end Go.Proofs.Qxb6602369a
