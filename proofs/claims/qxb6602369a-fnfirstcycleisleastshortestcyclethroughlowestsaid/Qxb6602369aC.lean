import Derived.Test.Qxb6602369aR
namespace Go.Proofs.Qxb6602369a
open Go.RowKit

theorem run_make_rows (P : Program) (t e : TypeId) (z : Value) (size bytes : Nat) (ht : P.underlying t = some (.slice e)) (hinfo : (P.info? e).map (fun i => (i.zero, i.size, i.bytes)) = some (some z, size, bytes))
    (kl kc : IntKind) (n : Nat) (hbytes : bytes * n ≤ 281474976710656) (h63 : n ≤ 9223372036854775807) (w : World) :
    (Instr.makeSlice t (.int kl (n : Int)) (.int kc (n : Int))).run P w = .ok (.slice (some ⟨w.heap.size, 0, none⟩) n n) (w.alloc (.cells (madeCells z.cells (n * size)) e)) := by
  obtain ⟨i, hi, hzz⟩ := Option.map_eq_some_iff.1 hinfo
  simp only [Prod.mk.injEq] at hzz
  obtain ⟨hz, hs, hb⟩ := hzz
  have hb' : (i.bytes : Int) * (n : Int) ≤ 281474976710656 := by
    have h : ((i.bytes * n : Nat) : Int) ≤ 281474976710656 := by rw [hb]; omega
    rwa [Int.natCast_mul] at h
  have hr := run_make (P := P) w t e i z ht hi hz kl kc n n (by omega) (Int.le_refl _) hb' (by omega)
  simp only [Int.toNat_natCast, hs] at hr
  exact hr
theorem rowIs_mades (w : World) (z : Array Value) (n : Nat) (t : TypeId) (f : Nat → Value) (hf : ∀ i, z[i % z.size]! = f i) : (w.alloc (.cells (madeCells z n) t)).rowIs w.heap.size t n f :=
  ⟨_, Deep.blk_alloc_new _ _, size_madeCells _ _, fun i hi => by simp [madeCells, hi, hf]⟩

/-- A row that is being filled from its head. -/
def fillTo (f z : Nat → Value) (k : Nat) : Nat → Value := fun j => if j < k then f j else z j
theorem fillTo_step {w : World} {b t n k : Nat} {f z : Nat → Value} (h : w.rowIs b t n (fillTo f z k)) : (w.setCell ⟨b, k, none⟩ (f k)).rowIs b t n (fillTo f z (k + 1)) :=
  (h.set k (f k)).congr fun j _ => by
    unfold fillTo
    by_cases e : j = k
    · subst e; simp
    · by_cases l : j < k
      · simp [e, l, (by omega : j < k + 1)]
      · simp [e, l]; intro h'; omega
theorem fillTo_all {w : World} {b t n : Nat} {f z : Nat → Value} (h : w.rowIs b t n (fillTo f z n)) : w.rowIs b t n f :=
  h.congr fun j hj => by simp [fillTo, hj]
theorem fillTo_zero {w : World} {b t n : Nat} {f z : Nat → Value} (h : w.rowIs b t n z) : w.rowIs b t n (fillTo f z 0) :=
  h.congr fun j hj => by simp [fillTo]

theorem Try.info51 : (Try.prog.info? 51).map (fun i => (i.zero, i.size, i.bytes)) = some (some (.agg #[.int .i64 0, .int .i64 0]), 2, 16) := by kernel_rfl
theorem Try.info49 : (Try.prog.info? 49).map (fun i => (i.zero, i.size, i.bytes)) = some (some (.agg #[.int .i64 0, .int .i64 0]), 2, 16) := by kernel_rfl
theorem Try.info40 : (Try.prog.info? 40).map (fun i => (i.zero, i.size, i.bytes)) = some (some (.agg #[.slice none 0 0, .slice none 0 0, .bool false]), 3, 56) := by kernel_rfl
theorem Try.info45 : (Try.prog.info? 45).map (fun i => (i.zero, i.size, i.bytes)) = some (some (.agg #[.slice none 0 0, .slice none 0 0, .bool false]), 3, 56) := by kernel_rfl
theorem Try.info37 : (Try.prog.info? 37).map (fun i => (i.zero, i.size, i.bytes)) = some (some (.slice none 0 0), 1, 24) := by kernel_rfl
theorem Try.info41 : (Try.prog.info? 41).map (fun i => (i.zero, i.size, i.bytes)) = some (some (.slice none 0 0), 1, 24) := by kernel_rfl
theorem Try.info28 : (Try.prog.info? 28).map (fun i => (i.zero, i.size, i.bytes)) = some (some (.slice none 0 0), 1, 24) := by kernel_rfl
theorem Try.info3 : (Try.prog.info? 3).map (fun i => (i.zero, i.size, i.bytes)) = some (some (.int .i64 0), 1, 8) := by kernel_rfl
theorem Try.info4 : (Try.prog.info? 4).map (fun i => (i.zero, i.size, i.bytes)) = some (some (.bool false), 1, 1) := by kernel_rfl

/-- The cells of a row of Refs. -/
def refC (l : List (Int × Int)) : Nat → Value := fun j => .int .i64 (if j % 2 = 0 then (l.getD (j / 2) (0, 0)).1 else (l.getD (j / 2) (0, 0)).2)
theorem refC_even (l : List (Int × Int)) (k : Nat) : refC l (k * 2) = .int .i64 (l.getD k (0, 0)).1 := by
  unfold refC
  rw [if_pos (by omega), Nat.mul_div_cancel _ (by omega)]
theorem refC_odd (l : List (Int × Int)) (k : Nat) : refC l (k * 2 + 1) = .int .i64 (l.getD k (0, 0)).2 := by
  unfold refC
  rw [if_neg (by omega), (by omega : (k * 2 + 1) / 2 = k)]
theorem RdR.of_row {w : World} {b t c lo : Nat} {l : List (Int × Int)} (h : w.rowIs b t (l.length * 2) (refC l)) (hb : lo ≤ b) : RdR lo w (.slice (some ⟨b, 0, none⟩) l.length c) l :=
  ⟨_, _, rfl, fun _ => ⟨b, 0, rfl, hb, h.lt, fun i hi => ⟨by rw [Nat.zero_add, h.cell (by omega), refC_even], by rw [Nat.zero_add, h.cell (by omega), refC_odd]⟩⟩⟩

/-- The call returned a slice of Refs. -/
def RetR (e : Ending) (lo : Nat) (w : World) (l : List (Int × Int)) : Prop := ∃ a c, e = .returned (.slice a l.length c) ∧ RdR lo w (.slice a l.length c) l
theorem refZ : ∀ i, (Value.agg #[.int .i64 0, .int .i64 0]).cells[i % (Value.agg #[.int .i64 0, .int .i64 0]).cells.size]! = .int .i64 0 := by
  intro i
  have h : (Value.agg #[.int .i64 0, .int .i64 0]).cells = #[.int .i64 0, .int .i64 0] := by rfl
  rw [h]
  have : i % 2 = 0 ∨ i % 2 = 1 := by omega
  rcases this with h | h <;> simp [h]

set_option maxRecDepth 100000 in
set_option maxHeartbeats 400000 in
theorem cloneRefs_any (lo c : Nat) (a : Option Addr) (l : List (Int × Int)) (w : World) (hR : RdR lo w (.slice a l.length c) l) (hl : l.length ≤ 1048576) :
    Calls Try.prog 31 #[.slice a l.length c] w fun e w' => RetR e w.heap.size w' l ∧ Below w.heap.size w w' := by
  have hat := (hR.at).2
  clear hR
  have hmk := fun w => run_make_rows Try.prog 37 51 _ 2 16 Try.underlying37 Try.info51 .i64 .i64 l.length (by omega) (by omega) w
  have hnil := fun w => Lib.run_eql_slice_nil (P := Try.prog) w 37 51 a l.length c 0 0 Try.underlying37
  cases a with
  | none =>
    rcases hat with rfl | ⟨b, o, h, _⟩
    · simp only [Option.isNone_none, List.length_nil] at hnil ⊢
      go_enter Try.func31, Try.ntmps31
      go_wp2
      go_ret
      exact ⟨⟨none, 0, rfl, RdR.nil _ _ _ _⟩, Below.refl _ _⟩
    · cases h
  | some a =>
  simp only [Option.isNone_some] at hnil
  go_enter Try.func31, Try.ntmps31
  go_wp2
  go_loopw [4] (fun i wr => ∃ k : Nat, k ≤ l.length ∧ i = .int .i64 k ∧ wr.rowIs w.heap.size 51 (l.length * 2) (fillTo (refC l) (fun _ => .int .i64 0) (k * 2)) ∧ Below w.heap.size w wr) (fun i _ => l.length - (intOf i).toNat)
  case atStart => exact ⟨0, Nat.zero_le _, rfl, fillTo_zero (rowIs_mades _ _ _ _ _ refZ), (Below.refl _ _).alloc (Nat.le_refl _) _⟩
  case round =>
    obtain ⟨k, hk, rfl, hrow, hbw⟩ := hrel
    by_cases hlt : k < l.length
    · rcases hat with rfl | ⟨b, o, ha, _, hb, hc⟩
      · simp at hlt
      cases ha
      obtain ⟨hc1, hc2⟩ := hc k hlt
      have hI1 := (hbw.cell (p := ⟨b, o + k * 2, none⟩) hb).trans hc1
      have hI2 := (hbw.cell (p := ⟨b, o + k * 2 + 1, none⟩) hb).trans hc2
      have hcl := hrow.cell (i := k * 2) (by omega)
      have hcl2 := hrow.cell (i := k * 2 + 1) (by omega)
      have hfr := hrow.frozen (k * 2)
      have hfr2 := hrow.frozen (k * 2 + 1)
      have hR := fillTo_step (fillTo_step hrow)
      rw [refC_even, refC_odd] at hR
      generalize (l.getD k (0, 0)).1 = x1 at hI1 hR hc1
      generalize (l.getD k (0, 0)).2 = x2 at hI2 hR hc2
      clear hc hc1 hc2 hrow hmk hnil
      go_wp2
      go_roundw
      case rel => exact ⟨k + 1, by omega, by go_num, (by rw [(by omega : (k + 1) * 2 = k * 2 + 1 + 1)]; exact hR), (hbw.setCell (Nat.le_refl _) _).setCell (Nat.le_refl _) _⟩
      case measure => simp [intOf]; omega
    · obtain rfl : k = l.length := by omega
      clear hmk hnil hat
      go_wp2
      go_ret
      exact ⟨⟨_, _, rfl, RdR.of_row (fillTo_all hrow) (Nat.le_refl _)⟩, hbw⟩

/-- The call returned a slice of nodes. -/
def RetN (e : Ending) (lo : Nat) (w : World) (G : List NodeD) : Prop := ∃ a c, e = .returned (.slice a G.length c) ∧ RdN lo w (.slice a G.length c) G
theorem RdN.nil (lo : Nat) (w : World) (a : Option Addr) (c : Nat) : RdN lo w (.slice a 0 c) [] := ⟨a, c, rfl, fun h => absurd rfl h⟩

/-- A row of nodes of which k are laid. -/
structure NdRow (lo : Nat) (w : World) (f : Nat → Value) (G : List NodeD) (k : Nat) : Prop where
  has : ∀ i, i < k → RdR lo w (f (i * 3)) (G.getD i nodeZ).needs ∧ RdP lo w (f (i * 3 + 1)) (G.getD i nodeZ).parts ∧ f (i * 3 + 2) = .bool (G.getD i nodeZ).lead
  zero : ∀ i, k ≤ i → f (i * 3 + 1) = .slice none 0 0
theorem NdRow.step {lo : Nat} {w w' : World} {f f' : Nat → Value} {G : List NodeD} {k : Nat} {d : NodeD} (h : NdRow lo w f G k) (hd : G.getD k nodeZ = d) (kp : Kp lo w w')
    (h1 : RdR lo w' (f' (k * 3)) d.needs) (h2 : RdP lo w' (f' (k * 3 + 1)) d.parts) (h3 : f' (k * 3 + 2) = .bool d.lead)
    (hf : ∀ j, (j < k * 3 ∨ k * 3 + 3 ≤ j) → f' j = f j) : NdRow lo w' f' G (k + 1) where
  has i hi := by
    by_cases e : i = k
    · subst e; rw [hd]; exact ⟨h1, h2, h3⟩
    · obtain ⟨a, b, c⟩ := h.has i (by omega)
      rw [hf _ (by omega), hf _ (by omega), hf _ (by omega)]
      exact ⟨a.keep kp, b.keep kp, c⟩
  zero i hi := by rw [hf _ (by omega)]; exact h.zero i (by omega)
theorem NdRow.done {w : World} {b t c lo lo' : Nat} {f : Nat → Value} {G : List NodeD} (h : NdRow lo' w f G G.length) (hr : w.rowIs b t (G.length * 3) f) (hb : lo ≤ b) (hl : lo ≤ lo') : RdN lo w (.slice (some ⟨b, 0, none⟩) G.length c) G :=
  ⟨_, _, rfl, fun _ => ⟨b, 0, rfl, hb, hr.lt, fun i hi => by
    obtain ⟨x, y, z⟩ := h.has i hi
    exact ⟨f (i * 3), f (i * 3 + 1), by rw [Nat.zero_add, hr.cell (by omega)], by rw [Nat.zero_add, hr.cell (by omega)], by rw [Nat.zero_add, hr.cell (by omega), z], x.lower hl, y.lower hl⟩⟩⟩
def nodeZc : Nat → Value := fun j => if j % 3 = 2 then .bool false else .slice none 0 0
theorem nodeZc_is : ∀ i, (Value.agg #[.slice none 0 0, .slice none 0 0, .bool false]).cells[i % (Value.agg #[.slice none 0 0, .slice none 0 0, .bool false]).cells.size]! = nodeZc i := by
  intro i
  have h : (Value.agg #[.slice none 0 0, .slice none 0 0, .bool false]).cells = #[.slice none 0 0, .slice none 0 0, .bool false] := by rfl
  rw [h]
  unfold nodeZc
  have : i % 3 = 0 ∨ i % 3 = 1 ∨ i % 3 = 2 := by omega
  rcases this with h | h | h <;> simp [h]
theorem NdRow.zero0 (lo : Nat) (w : World) (G : List NodeD) : NdRow lo w nodeZc G 0 where
  has i hi := absurd hi (by omega)
  zero i _ := by unfold nodeZc; rw [if_neg (by omega)]
/-- A row of slices of Refs of which k are laid. -/
def PtRow (lo : Nat) (w : World) (g : Nat → Value) (P : List (List (Int × Int))) (k : Nat) : Prop := ∀ i, i < k → RdR lo w (g i) (P.getD i [])
theorem PtRow.step {lo : Nat} {w w' : World} {g : Nat → Value} {P : List (List (Int × Int))} {k : Nat} {v : Value} (h : PtRow lo w g P k) (kp : Kp lo w w') (hv : RdR lo w' v (P.getD k [])) : PtRow lo w' (fun j => if j = k then v else g j) P (k + 1) := fun i hi => by
  by_cases e : i = k
  · subst e; simpa using hv
  · simp only [e, if_false]; exact (h i (by omega)).keep kp
theorem PtRow.done {w : World} {b t c lo lo' : Nat} {g : Nat → Value} {P : List (List (Int × Int))} (h : PtRow lo' w g P P.length) (hr : w.rowIs b t P.length g) (hb : lo ≤ b) (hl : lo ≤ lo') : RdP lo w (.slice (some ⟨b, 0, none⟩) P.length c) P :=
  ⟨_, _, rfl, fun _ => ⟨b, 0, rfl, hb, hr.lt, fun i hi => ⟨g i, by rw [Nat.zero_add, hr.cell hi], (h i hi).lower hl⟩⟩⟩

set_option maxRecDepth 100000 in
set_option maxHeartbeats 2000000 in
theorem cloneNodes_any (lo c : Nat) (a : Option Addr) (G : List NodeD) (w : World) (hR : RdN lo w (.slice a G.length c) G) (hW : gW G G.length ≤ 1048576) :
    Calls Try.prog 17 #[.slice a G.length c] w fun e w' => RetN e w.heap.size w' G ∧ Below w.heap.size w w' := by
  have hat := (hR.at).2
  have hGl := gW_len G G.length
  clear hR
  have hmk := fun w => run_make_rows Try.prog 29 40 _ 3 56 Try.underlying29 Try.info40 .i64 .i64 G.length (by omega) (by omega) w
  have hnil := fun w => Lib.run_eql_slice_nil (P := Try.prog) w 29 40 a G.length c 0 0 Try.underlying29
  cases a with
  | none =>
    rcases hat with rfl | ⟨b, o, h, _⟩
    · simp only [Option.isNone_none, List.length_nil] at hnil ⊢
      go_enter Try.func17, Try.ntmps17
      go_wp2
      go_ret
      exact ⟨⟨none, 0, rfl, RdN.nil _ _ _ _⟩, Below.refl _ _⟩
    · cases h
  | some a =>
  simp only [Option.isNone_some] at hnil
  go_enter Try.func17, Try.ntmps17
  go_wp2
  go_loopw [4] (fun i wr => ∃ k : Nat, k ≤ G.length ∧ i = .int .i64 k ∧ ∃ f, wr.rowIs w.heap.size 40 (G.length * 3) f ∧ NdRow (w.heap.size + 1) wr f G k ∧ Below w.heap.size w wr) (fun i _ => G.length - (intOf i).toNat)
  case atStart => exact ⟨0, Nat.zero_le _, rfl, nodeZc, rowIs_mades _ _ _ _ _ nodeZc_is, NdRow.zero0 _ _ _, (Below.refl _ _).alloc (Nat.le_refl _) _⟩
  case round =>
    obtain ⟨k, hk, rfl, f, hrow, HN, hbw⟩ := hrel
    obtain ⟨wa, rfl⟩ : ∃ wa : World, wa = wr := ⟨_, rfl⟩
    by_cases hlt : k < G.length
    · rcases hat with rfl | ⟨b, o, ha, hlo, hb, hc⟩
      · simp at hlt
      cases ha
      obtain ⟨a1, c1, a2, c2, g1, g2, g3, r1, r2⟩ := hc k hlt
      have hnd := ndW_le G hlt
      clear hc hmk hnil
      obtain ⟨d, hdd⟩ : ∃ d, G.getD k nodeZ = d := ⟨_, rfl⟩
      rw [hdd] at g1 g2 g3 hnd r1 r2
      have HDD : Hid (G.getD k nodeZ = d) := hdd
      clear hdd
      obtain ⟨N, P, L⟩ := d
      unfold ndW at hnd
      simp only at g1 g2 g3 hnd r1 r2
      have hF1 := cloneRefs_any lo c1 a1 N wa (r1.keep (Kp.of_below hbw lo)) (by omega)
      have g1' := (hbw.cell (p := ⟨b, o + k * 3, none⟩) hb).trans g1
      clear g1
      go_wp2_with fail
      refine hF1.mono ?_
      clear hF1 g1'
      rintro e w1 ⟨⟨v1a, v1c, rfl, hv1⟩, hb1⟩
      have hbw1 := hbw.trans (hb1.mono hbw.size)
      have hrow1 := hrow.of_block (hb1.block _ hrow.lt)
      have HN1 := Kp.of_below hb1 (w.heap.size + 1)
      have hcl := hrow1.cell (i := k * 3) (by omega)
      have hfr := hrow1.frozen (k * 3)
      have g2' := ((hbw1.setCell (p := ⟨w.heap.size, k * 3, none⟩) (Nat.le_refl _) (.slice v1a N.length v1c)).cell (p := ⟨b, o + k * 3 + 1, none⟩) hb).trans g2
      cases a2 with
      | none =>
        obtain rfl : P = [] := by
          rcases (r2.at).2 with h | ⟨b2, o2, h, _⟩
          · exact h
          · cases h
        simp only [List.length_nil] at g2'
        have hbw2 := hbw1.setCell (p := ⟨w.heap.size, k * 3, none⟩) (Nat.le_refl _) (.slice v1a N.length v1c)
        have hrow2 := hrow1.set (k * 3) (.slice v1a N.length v1c)
        have hs1 := hrow.lt
        have hcl7 := hrow2.cell (i := k * 3 + 2) (by omega)
        have hfr7 := hrow2.frozen (k * 3 + 2)
        have hR7 := hrow2.set (k * 3 + 2) (.bool L)
        have g3' := (hbw2.cell (p := ⟨b, o + k * 3 + 2, none⟩) hb).trans g3
        have hbw7 := hbw2.setCell (p := ⟨w.heap.size, k * 3 + 2, none⟩) (Nat.le_refl _) (.bool L)
        go_wp2
        go_roundw
        case rel =>
          have kp7 : Kp (w.heap.size + 1) w1 ((w1.setCell ⟨w.heap.size, k * 3, none⟩ (.slice v1a N.length v1c)).setCell ⟨w.heap.size, k * 3 + 2, none⟩ (.bool L)) :=
            (Kp.setCell ⟨w.heap.size, k * 3, none⟩ (Nat.lt_succ_self _) _).trans (Kp.setCell ⟨w.heap.size, k * 3 + 2, none⟩ (Nat.lt_succ_self _) _)
          refine ⟨k + 1, by omega, by go_num, _, hR7, HN.step HDD.out (HN1.trans kp7) ?_ ?_ ?_ ?_, hbw7⟩
          · simp only [if_neg (by omega : ¬ k * 3 = k * 3 + 2), if_true]
            exact (hv1.lower (by omega)).keep kp7
          · simp only [if_neg (by omega : ¬ k * 3 + 1 = k * 3 + 2), if_neg (by omega : ¬ k * 3 + 1 = k * 3), HN.zero k (Nat.le_refl _)]
            exact RdP.nil _ _ _ _
          · simp only [if_true]
          · intro j hj
            simp only [if_neg (by omega : ¬ j = k * 3 + 2), if_neg (by omega : ¬ j = k * 3)]
        case measure => simp [intOf]; omega
      | some a2 =>
        have hmk2 := fun w => run_make_row' (P := Try.prog) 38 37 _ 24 Try.underlying38 Try.info37 rfl .i64 .i64 P.length (by omega) (by omega) w
        have hbw2 := hbw1.setCell (p := ⟨w.heap.size, k * 3, none⟩) (Nat.le_refl _) (.slice v1a N.length v1c)
        have hrow2 := hrow1.set (k * 3) (.slice v1a N.length v1c)
        have hs1 := hbw1.size
        have hs0 := hrow1.lt
        have hsa := hrow.lt
        go_wp2
        clear hmk2 hcl hfr g2' hrow
        go_loopw [6] (fun i wq => ∃ m : Nat, m ≤ P.length ∧ i = .int .i64 m ∧ ∃ g, wq.rowIs w1.heap.size 37 P.length g ∧ PtRow (w1.heap.size + 1) wq g P m ∧ Below w1.heap.size (w1.setCell ⟨w.heap.size, k * 3, none⟩ (.slice v1a N.length v1c)) wq) (fun i _ => P.length - (intOf i).toNat)
        case atStart => exact ⟨0, Nat.zero_le _, rfl, _, (by have := World.rowIs_made (w1.setCell ⟨w.heap.size, k * 3, none⟩ (.slice v1a N.length v1c)) (.slice none 0 0) P.length 37; rwa [Deep.nblk_setCell] at this), (fun i hi => absurd hi (by omega)), (Below.refl _ _).alloc (by rw [Deep.nblk_setCell]; exact Nat.le_refl _) _⟩
        case round =>
          obtain ⟨m, hm, rfl, g, hrow3, HP3, hbw3⟩ := hrel
          obtain ⟨wb, rfl⟩ : ∃ wb : World, wb = wr := ⟨_, rfl⟩
          have hbw4 := hbw2.trans (hbw3.mono hs1)
          by_cases hml : m < P.length
          · rcases (r2.at).2 with rfl | ⟨b2, o2, ha2, hlo2, hb2, hc2⟩
            · simp at hml
            cases ha2
            obtain ⟨a3, c3, q1, q2⟩ := hc2 m hml
            have hpl := ptW_le P hml
            obtain ⟨q, hq⟩ : ∃ q, P.getD m [] = q := ⟨_, rfl⟩
            rw [hq] at q1 q2 hpl
            have HQ : Hid (P.getD m [] = q) := hq
            clear hq hc2
            have hF2 := cloneRefs_any lo c3 a3 q wb (q2.keep (Kp.of_below hbw4 lo)) (by omega)
            have q1' := (hbw4.cell (p := ⟨b2, o2 + m, none⟩) hb2).trans q1
            have g2' := (hbw4.cell (p := ⟨b, o + k * 3 + 1, none⟩) hb).trans g2
            go_wp2_with fail
            refine hF2.mono ?_
            clear hF2 g2' q1'
            rintro e w5 ⟨⟨v5a, v5c, rfl, hv5⟩, hb5⟩
            have hrow5 := hrow3.of_block (hb5.block _ hrow3.lt)
            have hcl5 := hrow5.cell hml
            have hfr5 := hrow5.frozen m
            have hR5 := hrow5.set m (.slice v5a q.length v5c)
            have hs3 := hrow3.lt
            have hP5 : PtRow (w1.heap.size + 1) (w5.setCell ⟨w1.heap.size, m, none⟩ (.slice v5a q.length v5c)) (fun j => if j = m then .slice v5a q.length v5c else g j) P (m + 1) :=
              HP3.step ((Kp.of_below hb5 _).trans (Kp.setCell ⟨w1.heap.size, m, none⟩ (Nat.lt_succ_self _) _)) (by rw [HQ.out]; exact (hv5.lower hs3).keep (Kp.setCell ⟨w1.heap.size, m, none⟩ (Nat.lt_succ_self _) _))
            have hbw5 := (hbw3.trans (hb5.mono (Nat.le_of_lt hs3))).setCell (p := ⟨w1.heap.size, m, none⟩) (Nat.le_refl _) (.slice v5a q.length v5c)
            go_wp2
            go_roundw
            case rel => exact ⟨m + 1, by omega, by go_num, _, hR5, hP5, hbw5⟩
            case measure => simp [intOf]; omega
          · obtain rfl : m = P.length := by omega
            have hrow6 := hrow2.of_block (hbw3.block _ hs0)
            have hcl6 := hrow6.cell (i := k * 3 + 1) (by omega)
            have hfr6 := hrow6.frozen (k * 3 + 1)
            have hR6 := hrow6.set (k * 3 + 1) (.slice (some ⟨w1.heap.size, 0, none⟩) P.length P.length)
            have hcl7 := hR6.cell (i := k * 3 + 2) (by omega)
            have hfr7 := hR6.frozen (k * 3 + 2)
            have hR7 := hR6.set (k * 3 + 2) (.bool L)
            have hbw6 := hbw4.setCell (p := ⟨w.heap.size, k * 3 + 1, none⟩) (Nat.le_refl _) (.slice (some ⟨w1.heap.size, 0, none⟩) P.length P.length)
            have g3' := (hbw6.cell (p := ⟨b, o + k * 3 + 2, none⟩) hb).trans g3
            have hbw7 := hbw6.setCell (p := ⟨w.heap.size, k * 3 + 2, none⟩) (Nat.le_refl _) (.bool L)
            go_wp2
            go_roundw
            case rel =>
              have kp7 : Kp (w.heap.size + 1) wb ((wb.setCell ⟨w.heap.size, k * 3 + 1, none⟩ (.slice (some ⟨w1.heap.size, 0, none⟩) P.length P.length)).setCell ⟨w.heap.size, k * 3 + 2, none⟩ (.bool L)) :=
                (Kp.setCell ⟨w.heap.size, k * 3 + 1, none⟩ (Nat.lt_succ_self _) _).trans (Kp.setCell ⟨w.heap.size, k * 3 + 2, none⟩ (Nat.lt_succ_self _) _)
              have kp3 : Kp (w.heap.size + 1) w1 wb := (Kp.setCell ⟨w.heap.size, k * 3, none⟩ (Nat.lt_succ_self _) (.slice v1a N.length v1c)).trans ⟨hbw3.size, fun i _ hi => hbw3.block i (by rw [Deep.nblk_setCell] at hi; exact hi)⟩
              refine ⟨k + 1, by omega, by go_num, _, hR7, HN.step HDD.out ((HN1.trans kp3).trans kp7) ?_ ?_ ?_ ?_, hbw7⟩
              · simp only [if_neg (by omega : ¬ k * 3 = k * 3 + 2), if_neg (by omega : ¬ k * 3 = k * 3 + 1), if_true]
                exact ((hv1.lower (by omega)).keep kp3).keep kp7
              · simp only [if_neg (by omega : ¬ k * 3 + 1 = k * 3 + 2), if_true]
                exact (HP3.done hrow3 (by omega) (by omega)).keep kp7
              · simp only [if_true]
              · intro j hj
                simp only [if_neg (by omega : ¬ j = k * 3 + 2), if_neg (by omega : ¬ j = k * 3 + 1), if_neg (by omega : ¬ j = k * 3)]
            case measure => simp [intOf]; omega
    · obtain rfl : k = G.length := by omega
      clear hmk hnil hat
      go_wp2
      go_ret
      exact ⟨⟨_, _, rfl, HN.done hrow (Nat.le_refl _) (Nat.le_succ _)⟩, hbw⟩
end Go.Proofs.Qxb6602369a
