import Derived.Test.Qxb6602424aN
import Derived.RegionTactic
import Derived.BigRegion
import Derived.Deep.RegionWith
import Derived.Laws.Rows
import Derived.Laws.Tables
import Derived.ChangeKeysEq
import Derived.Laws.StructEq
import Derived.Laws.CopyOwn
namespace Go.Proofs.Qxb6602424a
open Go.RowKit

set_option maxHeartbeats 400000 in
theorem hexvalue_any (c : Int) (w : World) (h : Hex c) :
    Calls Try.prog 29 #[.int .u8 c] w fun e w' => e = .returned (.int .u8 (hexV c)) ∧ w' = w := by
  have hr : ∀ {a b : Int}, a = b → Ending.returned (.int .u8 a) = .returned (.int .u8 b) := fun h => by rw [h]
  rcases h with ⟨h1, h2⟩ | ⟨h1, h2⟩ | ⟨h1, h2⟩
  all_goals
    go_enter Try.func29, Try.ntmps29
    go_wp2
    go_ret
    exact ⟨hr (by unfold hexV; split <;> (try split) <;> omega), rfl⟩

/-- An array of n bytes. -/
def arr (n : Nat) (f : Nat → Int) : Array Value := (Array.range n).map fun i => .int .u8 (f i)
theorem arr_size (n : Nat) (f : Nat → Int) : (arr n f).size = n := by simp [arr]
theorem arr_at {n : Nat} {f : Nat → Int} {i : Nat} (h : i < n) : (arr n f)[i]? = some (.int .u8 (f i)) := by simp [arr, h]
theorem arr_of {c : Array Value} {n : Nat} {f : Nat → Int} (h1 : c.size = n) (h2 : ∀ i, i < n → c[i]? = some (.int .u8 (f i))) : c = arr n f := by
  apply Array.ext_getElem?
  intro i
  by_cases h : i < n
  · rw [h2 i h, arr_at h]
  · rw [Array.getElem?_eq_none (by omega), Array.getElem?_eq_none (by rw [arr_size]; omega)]
theorem row_arr {w : World} {b t n : Nat} {f : Nat → Int} (h : w.rowIs b t n (fun i => .int .u8 (f i))) : w.heap[b]? = some (.cells (arr n f) t (0, 0)) := by
  obtain ⟨c, h1, h2, h3⟩ := h
  rw [h1, arr_of h2 h3]

def zz16 : Array Value := #[.int .u8 0, .int .u8 0, .int .u8 0, .int .u8 0, .int .u8 0, .int .u8 0, .int .u8 0, .int .u8 0, .int .u8 0, .int .u8 0, .int .u8 0, .int .u8 0, .int .u8 0, .int .u8 0, .int .u8 0, .int .u8 0]
theorem zeros16 (w : World) : (w.alloc (.cells zz16 33)).rowIs w.heap.size 33 16 (fun _ => .int .u8 0) :=
  ⟨zz16, Deep.blk_alloc_new _ _, rfl, fun i hi => by
    rcases (by omega : i = 0 ∨ i = 1 ∨ i = 2 ∨ i = 3 ∨ i = 4 ∨ i = 5 ∨ i = 6 ∨ i = 7 ∨ i = 8 ∨ i = 9 ∨ i = 10 ∨ i = 11 ∨ i = 12 ∨ i = 13 ∨ i = 14 ∨ i = 15) with rfl | rfl | rfl | rfl | rfl | rfl | rfl | rfl | rfl | rfl | rfl | rfl | rfl | rfl | rfl | rfl <;> rfl⟩

theorem step_even {w : World} {b t J m : Nat} {f : Nat → Int} {h : Int} (hr : w.rowIs b t 16 (fun x => .int .u8 (part8 f J x))) (hJ : J = 2 * m) (hn : nib f J = h) (h0 : 0 ≤ h) (h1 : h ≤ 15) :
    (w.setCell ⟨b, m, none⟩ (.int .u8 (bits .or .u8 (part8 f J m) (h * 16)))).rowIs b t 16 (fun x => .int .u8 (part8 f (J + 1) x)) := by
  subst hJ
  obtain ⟨e1, e2⟩ := part8_even (f := f) (m := m)
  rw [e1, bits_join .u8 8 (by decide) wraps_u8 8 0 (h * 16) (by omega) (by omega) (by omega) (by omega) (by omega) (by omega)]
  refine (hr.set m _).congr fun x _ => ?_
  rw [e2 x, hn]
  by_cases e : x = m
  · simp [e]
  · simp [e]
theorem step_odd {w : World} {b t J m : Nat} {f : Nat → Int} {h : Int} (hr : w.rowIs b t 16 (fun x => .int .u8 (part8 f J x))) (hJ : J = 2 * m + 1) (hn : nib f J = h) (g0 : 0 ≤ nib f (2 * m)) (g1 : nib f (2 * m) ≤ 15) (h0 : 0 ≤ h) (h1 : h ≤ 15) :
    (w.setCell ⟨b, m, none⟩ (.int .u8 (bits .or .u8 (part8 f J m) h))).rowIs b t 16 (fun x => .int .u8 (part8 f (J + 1) x)) := by
  subst hJ
  obtain ⟨e1, e2⟩ := part8_odd (f := f) (m := m)
  rw [e1, bits_join .u8 8 (by decide) wraps_u8 4 (nib f (2 * m) * 16) h (by omega) (by omega) (by omega) (by omega) (by omega) (by omega)]
  refine (hr.set m _).congr fun x _ => ?_
  rw [e2 x, hn]
  by_cases e : x = m
  · simp [e]
  · simp [e]
theorem arr_one (n : Nat) (f : Nat → Int) : (arr n f).all (·.oneCell') = true := by
  rw [Array.all_eq_true]
  intro i hi
  simp [arr, Value.oneCell']

set_option maxHeartbeats 1000000 in
theorem parse_any (s : ByteArray) (w : World) (hu : IsU s.size (ch s)) :
    Calls Try.prog 27 #[.string s] w fun e w' => e = .returned (.agg (arr 16 (byt (ch s)))) ∧ Below w.heap.size w w' := by
  have h36 := hu.1
  have HU : Hid (IsU s.size (ch s)) := hu
  clear hu
  go_enter Try.func27, Try.ntmps27
  go_wp2
  go_loopw [4, 5] (fun iv jv wr => ∃ k : Nat, k ≤ 36 ∧ iv = .int .i64 k ∧ jv = .int .i64 (dig k : Nat) ∧ wr.rowIs (w.heap.size + 1) 33 16 (fun m => .int .u8 (part8 (ch s) (dig k) m)) ∧ wr.rowIs w.heap.size 33 16 (fun _ => .int .u8 0) ∧ Below w.heap.size w wr) (fun iv _ _ => 36 - (intOf iv).toNat)
  case atStart =>
    refine ⟨0, Nat.zero_le _, rfl, rfl, ?_, (zeros16 w).alloc _, ((Below.refl _ _).alloc (Nat.le_refl _) _).alloc (by simp) _⟩
    have h := zeros16 (w.alloc (.cells zz16 33))
    have h2 : (w.alloc (.cells zz16 33)).heap.size = w.heap.size + 1 := by simp
    rw [h2] at h
    exact h.congr fun m _ => by rw [show dig 0 = 0 from rfl, part8_zero]
  case round =>
    obtain ⟨k, hk, rfl, rfl, hrow, hres, hbw⟩ := hrel
    by_cases hlt : k < 36
    · have hlt' : k < s.size := by omega
      have hch := ch_eq s k hlt'
      obtain ⟨hb0, hb1⟩ := ch_bd s k
      obtain ⟨hD, hX⟩ := HU.out.2 k hlt
      by_cases hd : Dsh k
      · have hb45 : (ch s k == 45) = true := beq_iff_eq.2 (hD hd)
        have HE : Hid (dig (k + 1) = dig k) := dig_dash hd
        clear hD hX hd
        go_wp2
        go_roundw
        case rel => exact ⟨k + 1, by omega, by go_num, by rw [HE.out], by rw [HE.out]; exact hrow, hres, hbw⟩
        case measure => simp [intOf]; omega
      · have hx := hX hd
        have hb45 : (ch s k == 45) = false := beq_eq_false_iff_ne.2 hx.ne
        have hF := fun w => hexvalue_any (ch s k) w hx
        have HE : Hid (dig (k + 1) = dig k + 1) := dig_other hd
        have HP : Hid (nib (ch s) (dig k) = hexV (ch s k)) := by show _ = _; unfold nib; rw [pos_dig hd]
        obtain ⟨hv0, hv1⟩ := hexV_bd hx
        have hdl : dig k < 32 := by have := dig_or k; unfold Dsh at hd; omega
        clear hD hX hd hx
        obtain ⟨J, hJ⟩ : ∃ J, dig k = J := ⟨_, rfl⟩
        rw [hJ] at HE HP hdl hrow ⊢
        clear hJ
        obtain ⟨m, hm⟩ : ∃ m, J / 2 = m := ⟨_, rfl⟩
        have hq : (J : Int) / 2 = (m : Int) := by omega
        have hm16 : m < 16 := by omega
        have hmw : IntKind.i64.wrap (m : Int) = (m : Int) := by rw [IntKind.wrap_i64]; omega
        have hmi : (m : Int) < 16 := by omega
        have hcell := hrow.cell (i := m) (by omega)
        have hfr := hrow.frozen m
        rcases (by omega : J % 2 = 0 ∨ J % 2 = 1) with hj | hj
        · have HJ : Hid (J = 2 * m) := by show _ = _; omega
          have hr : (J : Int).tmod 2 = 0 := by rw [Int.tmod_eq_emod_of_nonneg (by omega)]; omega
          have hw1 : IntKind.i64.wrap 1 = 1 := by decide
          have hw4 : IntKind.i64.wrap 4 = 4 := by decide
          clear hj hm
          go_wp2
          go_region_with (go_at_call 29; refine (hF _).mono ?_; rintro e w' ⟨rfl, rfl⟩)
          all_goals
            go_wp2
            go_roundw
            case rel => exact ⟨k + 1, by omega, by go_num, by rw [HE.out]; go_num, by rw [HE.out]; exact (step_even hrow HJ.out HP.out hv0 hv1).drew, (hres.setOther (a := ⟨w.heap.size + 1, m, none⟩) (by simp) _).drew, (hbw.setCell (p := ⟨w.heap.size + 1, m, none⟩) (by show _ ≤ w.heap.size + 1; omega) _).drew⟩
            case measure => simp [intOf]; omega
        · have HJ : Hid (J = 2 * m + 1) := by show _ = _; omega
          have hr : (J : Int).tmod 2 = 1 := by rw [Int.tmod_eq_emod_of_nonneg (by omega)]; omega
          have hw1 : IntKind.i64.wrap 0 = 0 := by decide
          have hn := nib_bd HU.out (show 2 * m < 32 by have := HJ.out; omega)
          clear hj hm
          go_wp2
          go_region_with (go_at_call 29; refine (hF _).mono ?_; rintro e w' ⟨rfl, rfl⟩)
          all_goals
            go_wp2
            go_roundw
            case rel => exact ⟨k + 1, by omega, by go_num, by rw [HE.out]; go_num, by rw [HE.out]; exact (step_odd hrow HJ.out HP.out hn.1 hn.2 hv0 hv1).drew, (hres.setOther (a := ⟨w.heap.size + 1, m, none⟩) (by simp) _).drew, (hbw.setCell (p := ⟨w.heap.size + 1, m, none⟩) (by show _ ≤ w.heap.size + 1; omega) _).drew⟩
            case measure => simp [intOf]; omega
    · obtain rfl : k = 36 := by omega
      rw [dig_36] at hrow ⊢
      have hr16 := row_arr (hrow.congr (g := fun m => .int .u8 (byt (ch s) m)) fun m hm => by rw [part8_all hm])
      obtain ⟨c0, hc0, hc1, _⟩ := hres
      go_wp2_with (first | (refine wpList_load_row rfl 33 _ rfl (w.heap.size + 1) rfl 33 _ _ _ hr16 Try.underlying33 rfl (by rw [arr_size]; kernel_rfl) ?_) | (refine wpList_store_row rfl 33 _ _ rfl w.heap.size _ rfl rfl 33 c0 hc0 (by rw [arr_size]; kernel_rfl) (by rw [arr_size]; exact hc1) (arr_one _ _) ?_))
      exact bodyPost_ret (v := .agg (arr 16 (byt (ch s)))) (results_cell_row Try.results27 _ _ w.heap.size 33 _ (0, 0) _ rfl (setRow_heap _ _ _ _ _ _ hc0) Try.underlying33 rfl (by rw [arr_size]; kernel_rfl)) rfl ⟨rfl, below_setRow hbw (Nat.le_refl _) _⟩

theorem zeros16' (w : World) : (w.alloc (.cells zz16 24)).rowIs w.heap.size 24 16 (fun _ => .int .u8 0) :=
  ⟨zz16, Deep.blk_alloc_new _ _, rfl, fun i hi => by
    rcases (by omega : i = 0 ∨ i = 1 ∨ i = 2 ∨ i = 3 ∨ i = 4 ∨ i = 5 ∨ i = 6 ∨ i = 7 ∨ i = 8 ∨ i = 9 ∨ i = 10 ∨ i = 11 ∨ i = 12 ∨ i = 13 ∨ i = 14 ∨ i = 15) with rfl | rfl | rfl | rfl | rfl | rfl | rfl | rfl | rfl | rfl | rfl | rfl | rfl | rfl | rfl | rfl <;> rfl⟩

set_option maxHeartbeats 400000 in
theorem zzparse_any (s : ByteArray) (w : World) (hu : IsU s.size (ch s)) :
    Calls Try.prog 18 #[.string s] w fun e w' => e = .returned (.agg (arr 16 (byt (ch s)))) ∧ Below w.heap.size w w' := by
  have hp := fun w => parse_any s w hu
  clear hu
  go_enter Try.func18, Try.ntmps18
  go_wp2_with fail
  refine (hp _).mono ?_
  rintro e w1 ⟨rfl, hb1⟩
  have hz := zeros16' w
  have hb0 : Below w.heap.size w (w.alloc (.cells zz16 24)) := (Below.refl _ _).alloc (Nat.le_refl _) _
  obtain ⟨c0, hc0, hc1, _⟩ : w1.rowIs w.heap.size 24 16 (fun _ => .int .u8 0) := hz.of_block (hb1.block w.heap.size (by simp))
  have hbb : Below w.heap.size w w1 := hb0.trans (hb1.mono (by simp))
  clear hp hz hb0 hb1
  go_wp2_with (first | (refine wpList_store_row rfl 24 _ _ rfl w.heap.size _ rfl rfl 24 c0 hc0 (by rw [arr_size]; kernel_rfl) (by rw [arr_size]; exact hc1) (arr_one _ _) ?_))
  exact bodyPost_ret (v := .agg (arr 16 (byt (ch s)))) (results_cell_row Try.results18 _ _ w.heap.size 24 _ (0, 0) _ rfl (setRow_heap _ _ _ _ _ _ hc0) Try.underlying24 rfl (by rw [arr_size]; kernel_rfl)) rfl ⟨rfl, below_setRow hbb (Nat.le_refl _) _⟩

set_option maxHeartbeats 400000 in
theorem dashes_any (k : Nat) (w : World) (hk : k < 16) :
    Calls Try.prog 28 #[.int .i64 k] w fun e w' => e = .returned (.int .i64 (db k : Nat)) ∧ w' = w := by
  have hr : ∀ {a b : Int}, a = b → Ending.returned (.int .i64 a) = .returned (.int .i64 b) := fun h => by rw [h]
  rcases db_or k with ⟨h1, h2⟩ | ⟨h0, h1, h2⟩ | ⟨h0, h1, h2⟩ | ⟨h0, h1, h2⟩ | ⟨h0, h2⟩
  all_goals
    rw [h2]
    clear h2
    go_enter Try.func28, Try.ntmps28
    go_wp2
    go_ret
    exact ⟨rfl, rfl⟩

/-- The first k bytes of the UUID are read. -/
def upTo (f : Nat → Int) (k m : Nat) : Int := if m < k then byt f m else 0

set_option maxHeartbeats 1000000 in
theorem model_any (s : ByteArray) (w : World) (hu : IsU s.size (ch s)) :
    Calls Try.prog 20 #[.string s] w fun e w' => e = .returned (.agg (arr 16 (byt (ch s)))) ∧ Below w.heap.size w w' := by
  have h36 := hu.1
  have HU : Hid (IsU s.size (ch s)) := hu
  clear hu
  go_enter Try.func20, Try.ntmps20
  go_wp2
  go_loopw [4] (fun kv wr => ∃ k : Nat, k ≤ 16 ∧ kv = .int .i64 k ∧ wr.rowIs (w.heap.size + 1) 24 16 (fun m => .int .u8 (upTo (ch s) k m)) ∧ wr.rowIs w.heap.size 24 16 (fun _ => .int .u8 0) ∧ Below w.heap.size w wr) (fun kv _ => 16 - (intOf kv).toNat)
  case atStart =>
    refine ⟨0, Nat.zero_le _, rfl, ?_, (zeros16' w).alloc _, ((Below.refl _ _).alloc (Nat.le_refl _) _).alloc (by simp) _⟩
    have h := zeros16' (w.alloc (.cells zz16 24))
    have h2 : (w.alloc (.cells zz16 24)).heap.size = w.heap.size + 1 := by simp
    rw [h2] at h
    exact h.congr fun m _ => by simp [upTo]
  case round =>
    obtain ⟨k, hk, rfl, hrow, hres, hbw⟩ := hrel
    by_cases hlt : k < 16
    · have hdk := dashes_any k
      have hdb := db_or k
      obtain ⟨hp1, hp2, _⟩ := pos_lt (j := 2 * k) (by omega)
      obtain ⟨hp3, hp4, _⟩ := pos_lt (j := 2 * k + 1) (by omega)
      have e1 : pos (2 * k) = 2 * k + db k := by unfold pos; rw [show 2 * k / 2 = k by omega]
      have e2 : pos (2 * k + 1) = 2 * k + db k + 1 := by unfold pos; rw [show (2 * k + 1) / 2 = k by omega]; omega
      have hx1 := (HU.out.2 _ hp1).2 hp2
      have hx2 := (HU.out.2 _ hp3).2 hp4
      have n1 : nib (ch s) (2 * k) = hexV (ch s (2 * k + db k)) := by unfold nib; rw [e1]
      have n2 : nib (ch s) (2 * k + 1) = hexV (ch s (2 * k + db k + 1)) := by unfold nib; rw [e2]
      rw [e1] at hx1 hp1
      rw [e2] at hx2 hp3
      have HB : Hid (byt (ch s) k = hexV (ch s (2 * k + db k)) * 16 + hexV (ch s (2 * k + db k + 1))) := by show _ = _; unfold byt; rw [n1, n2]
      obtain ⟨D, hD⟩ : ∃ D, db k = D := ⟨_, rfl⟩
      rw [hD] at hx1 hx2 hp1 hp3 HB hdb
      have hdk' := fun w => hdk w hlt
      rw [hD] at hdk'
      clear hD hdk n1 n2 e1 e2 hp2 hp4
      have hD4 : D ≤ 4 := by omega
      obtain ⟨q, hq⟩ : ∃ q, 2 * k + D = q := ⟨_, rfl⟩
      rw [hq] at hx1 hx2 hp1 hp3 HB
      have hqi : 2 * (k : Int) + (D : Int) = (q : Int) := by omega
      clear hq hdb
      have hc1 := ch_eq s q (by omega)
      have hc2 := ch_eq s (q + 1) (by omega)
      have hv1 := hexV_bd hx1
      have hv2 := hexV_bd hx2
      obtain ⟨a0, a1⟩ := hv1
      obtain ⟨b0, b1⟩ := hv2
      have hF1 := fun w => hexval_yes (ch s q) w hx1
      have hF2 := fun w => hexval_yes (ch s (q + 1)) w hx2
      clear hx1 hx2
      have hcell := hrow.cell hlt
      have hfr := hrow.frozen k
      go_wp2_with fail
      refine (hdk' _).mono ?_
      rintro e w' ⟨rfl, rfl⟩
      go_wp2_with fail
      refine (hF1 _).mono ?_
      rintro e w' ⟨rfl, rfl⟩
      go_wp2_with fail
      refine (hF2 _).mono ?_
      rintro e w' ⟨rfl, rfl⟩
      go_wp2
      go_roundw
      case rel =>
        refine ⟨k + 1, by omega, by go_num, ?_, hres.setOther (a := ⟨w.heap.size + 1, k, none⟩) (by simp) _, hbw.setCell (p := ⟨w.heap.size + 1, k, none⟩) (by show _ ≤ w.heap.size + 1; omega) _⟩
        refine (hrow.set k _).congr fun m _ => ?_
        by_cases e : m = k
        · subst e; simp [upTo, HB.out]
        · simp only [if_neg e, upTo]
          by_cases h : m < k
          · rw [if_pos h, if_pos (by omega)]
          · rw [if_neg h, if_neg (by omega)]
      case measure => simp [intOf]; omega
    · obtain rfl : k = 16 := by omega
      have hr16 := row_arr (hrow.congr (g := fun m => .int .u8 (byt (ch s) m)) fun m hm => by simp [upTo, hm])
      obtain ⟨c0, hc0, hc1, _⟩ := hres
      go_wp2_with (first | (refine wpList_load_row rfl 24 _ rfl (w.heap.size + 1) rfl 24 _ _ _ hr16 Try.underlying24 rfl (by rw [arr_size]; kernel_rfl) ?_) | (refine wpList_store_row rfl 24 _ _ rfl w.heap.size _ rfl rfl 24 c0 hc0 (by rw [arr_size]; kernel_rfl) (by rw [arr_size]; exact hc1) (arr_one _ _) ?_))
      exact bodyPost_ret (v := .agg (arr 16 (byt (ch s)))) (results_cell_row Try.results20 _ _ w.heap.size 24 _ (0, 0) _ rfl (setRow_heap _ _ _ _ _ _ hc0) Try.underlying24 rfl (by rw [arr_size]; kernel_rfl)) rfl ⟨rfl, below_setRow hbw (Nat.le_refl _) _⟩

/-- Two arrays of bytes are equal just where they agree at each place. -/
theorem eqItems_run (d : Nat) (f g : Nat → Int) (w : World) : ∀ is : List Nat, (∀ i ∈ is, i < 16) → (Op.eqItems (d + 1) 5 1 (arr 16 f) (arr 16 g) is).run Try.prog w = .ok (is.all fun i => f i == g i) w
  | [], _ => by simp [Op.eqItems]
  | i :: is, h => by
    have hi := h i (by simp)
    have p5 : Try.prog.plainKey 5 = true := by kernel_rfl
    have h1 := run_part_plain w p5 (off := i * 1) (by rw [Nat.mul_one]; exact arr_at (f := f) hi)
    have h2 := run_part_plain w p5 (off := i * 1) (by rw [Nat.mul_one]; exact arr_at (f := g) hi)
    have h3 := run_equalIn_int (P := Try.prog) w d 5 .u8 .u8 (f i) (g i) Try.underlying5
    have ih := eqItems_run d f g w is (fun j hj => h j (by simp [hj]))
    simp only [Op.eqItems, Sem.run_bind, h1, h2, h3, Result.andThen_ok, List.all_cons]
    by_cases e : f i = g i
    · simp [e, ih]
    · simp [e]
def eqA (f g : Nat → Int) : Bool := (List.range 16).all fun i => f i == g i
theorem eqA_iff (f g : Nat → Int) : eqA f g = true ↔ ∀ i, i < 16 → f i = g i := by simp [eqA]
theorem Try.info5 : (Try.prog.info? 5).isSome = true := by kernel_rfl
theorem eql_arr (f g : Nat → Int) (w : World) : (binOp .eql 24 (.agg (arr 16 f)) (.agg (arr 16 g))).run Try.prog w = .ok (.bool (eqA f g)) w := by
  obtain ⟨i, hi⟩ := Option.isSome_iff_exists.1 Try.info5
  have hc : Try.prog.cellsOf 5 = 1 := by kernel_rfl
  have h := run_equalIn_array (P := Try.prog) w 9999 (arr 16 f) (arr 16 g) Try.underlying24 hi
  rw [hc, eqItems_run 9998 f g w _ (fun i hi => by simpa using hi)] at h
  rw [run_eql_struct, h]
  rfl

set_option maxHeartbeats 400000 in
theorem zz19_any (s : ByteArray) (w : World) (hs : s.size ≤ maxLen) :
    Calls Try.prog 19 #[.string s] w fun e w' => RetB e (s.size ≤ 1048576) ∧ w' = w := by
  unfold maxLen at hs
  go_enter Try.func19, Try.ntmps19
  go_wp2
  all_goals go_ret
  · exact ⟨RetB.no (by omega), rfl⟩
  · exact ⟨RetB.yes (by omega), rfl⟩

set_option maxHeartbeats 400000 in
/-- The offset law. -/
theorem law7 (s : ByteArray) (w : World) (hs : s.size ≤ maxLen) :
    Calls Try.prog 7 #[.string s] w fun e w' => e = .returned (.bool true) ∧ Below w.heap.size w w' := by
  have hz := zz19_any s w hs
  unfold maxLen at hs
  by_cases hbig : s.size ≤ 1048576
  · have hd : decide ((1048576 : Int) < (s.size : Int)) = false := decide_eq_false (by omega)
    go_enter Try.func7, Try.ntmps7
    go_wp2_with fail
    refine hz.mono ?_
    rintro e w' ⟨⟨v, rfl, hv⟩, rfl⟩
    obtain rfl : v = true := hv.2 hbig
    clear hv hz
    go_wp2_with fail
    refine (zzisuuid_any s _).mono ?_
    rintro e w' ⟨⟨v, rfl, hv⟩, rfl⟩
    cases v
    · clear hv
      go_wp2
      go_ret
      exact ⟨rfl, Below.refl _ _⟩
    have hU := hv.1 rfl
    have HU : Hid (IsU s.size (ch s)) := hU
    clear hv hU
    go_wp2_with fail
    refine (zzparse_any s _ HU.out).mono ?_
    rintro e w1 ⟨rfl, hb1⟩
    go_wp2_with fail
    refine (model_any s _ HU.out).mono ?_
    rintro e w2 ⟨rfl, hb2⟩
    have heq := eql_arr (byt (ch s)) (byt (ch s))
    have he : eqA (byt (ch s)) (byt (ch s)) = true := (eqA_iff _ _).2 fun _ _ => rfl
    rw [he] at heq
    clear he
    go_wp2
    go_ret
    exact ⟨rfl, hb1.trans (hb2.mono hb1.size)⟩
  · go_enter Try.func7, Try.ntmps7
    go_wp2_with fail
    refine hz.mono ?_
    rintro e w' ⟨⟨v, rfl, hv⟩, rfl⟩
    obtain rfl : v = false := by
      cases v
      · rfl
      · exact absurd (hv.1 rfl) hbig
    clear hv hz
    go_wp2
    go_ret
    exact ⟨rfl, Below.refl _ _⟩
end Go.Proofs.Qxb6602424a
