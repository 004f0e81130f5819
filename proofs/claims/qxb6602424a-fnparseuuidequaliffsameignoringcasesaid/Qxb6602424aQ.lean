import Derived.Test.Qxb6602424aP
import Derived.Laws.BytesString
namespace Go.Proofs.Qxb6602424a
open Go.RowKit

/-- A byte in lower case. -/
def lowB (c : Int) : Int := if 65 ≤ c ∧ c ≤ 90 then c + 32 else c
theorem lowB_or (c : Int) : (65 ≤ c ∧ c ≤ 90 ∧ lowB c = c + 32) ∨ (¬ (65 ≤ c ∧ c ≤ 90) ∧ lowB c = c) := by unfold lowB; split <;> omega
theorem lowB_bd {c : Int} (h0 : 0 ≤ c) (h1 : c ≤ 255) : 0 ≤ lowB c ∧ lowB c ≤ 255 := by have := lowB_or c; omega
/-- The digit of a value, in lower case. -/
def loD (v : Int) : Int := if v < 10 then 48 + v else 87 + v
theorem loD_or (v : Int) : (v < 10 ∧ loD v = 48 + v) ∨ (10 ≤ v ∧ loD v = 87 + v) := by unfold loD; split <;> omega
theorem loD_hexV {c : Int} (h : Hex c) : loD (hexV c) = lowB c := by
  have a := lowB_or c; have b := loD_or (hexV c)
  have e : (c ≤ 57 ∧ hexV c = c - 48) ∨ (57 < c ∧ 97 ≤ c ∧ hexV c = c - 87) ∨ (57 < c ∧ c < 97 ∧ hexV c = c - 55) := by unfold hexV; split <;> (try split) <;> omega
  unfold Hex at h
  omega

/-- A text of n bytes. -/
def txt (n : Nat) (f : Nat → Int) : ByteArray := ⟨((List.range n).map fun i => UInt8.ofNat (f i).toNat).toArray⟩
theorem txt_congr {n : Nat} {f g : Nat → Int} (h : ∀ i, i < n → f i = g i) : txt n f = txt n g := by
  unfold txt
  congr 2
  apply List.map_congr_left
  intro i hi
  rw [h i (by simpa using hi)]
theorem txt_list (n : Nat) (f : Nat → Int) : (txt n f).toList = (List.range n).map fun i => UInt8.ofNat (f i).toNat := by
  rw [ByteArray.toList_eq]; rfl
theorem txt_inj {n : Nat} {f g : Nat → Int} (hf : ∀ i, 0 ≤ f i ∧ f i ≤ 255) (hg : ∀ i, 0 ≤ g i ∧ g i ≤ 255) (h : txt n f = txt n g) {i : Nat} (hi : i < n) : f i = g i := by
  have e : ((txt n f).toList)[i]? = ((txt n g).toList)[i]? := by rw [h]
  rw [txt_list, txt_list] at e
  simp [hi] at e
  have a := hf i; have b := hg i
  have e2 := congrArg UInt8.toNat e
  simp at e2
  omega

theorem push_all : ∀ (ns : List Int) (s : ByteArray), (ns.foldl (fun r n => r.push (UInt8.ofNat n.toNat)) s) = ⟨s.data ++ (ns.map fun n => UInt8.ofNat n.toNat).toArray⟩
  | [], s => by simp
  | n :: ns, s => by
    rw [List.foldl_cons, push_all ns]
    simp [ByteArray.push]

/-- string(b) over a row of bytes. -/
theorem conv_row {w : World} {b t n c : Nat} {f : Nat → Int} (h : w.rowIs b t n (fun i => .int .u8 (f i))) : (convert 32 9 (.slice (some ⟨b, 0, none⟩) n c)).run Try.prog w = .ok (.string (txt n f)) w := by
  rw [run_convert_bytes_string w 32 9 5 _ _ _ Try.underlying32 Try.underlying5 Try.underlying9]
  have hl := run_loadCells_list (P := Try.prog) w ⟨b, 0, none⟩ (((List.range n).map f).map (Value.int .u8)) (fun j v hv => by
    have hj : j < n := by
      by_cases hj : j < n
      · exact hj
      · rw [List.getElem?_eq_none (by simp; omega)] at hv; cases hv
    simp [hj] at hv
    have hadd : (⟨b, 0, none⟩ : Addr).add j = ⟨b, j, none⟩ := by unfold Addr.add; split <;> simp_all
    rw [hadd, h.cell hj, ← hv])
  simp only [List.length_map, List.length_range] at hl
  rw [run_bytesToString w ⟨b, 0, none⟩ n c ((List.range n).map f) hl, push_all]
  congr 2
  unfold txt
  simp

theorem Try.info5' : (Try.prog.info? 5).map (fun i => (i.zero, i.size, i.bytes)) = some (some (.int .u8 0), 1, 1) := by kernel_rfl

/-- The first k bytes are in lower case. -/
def lowTo (s : ByteArray) (k j : Nat) : Value := if j < k then .int .u8 (lowB (ch s j)) else .int .u8 0
theorem low_step {w : World} {b t : Nat} {s : ByteArray} {n k : Nat} (h : w.rowIs b t n (lowTo s k)) : (w.setCell ⟨b, k, none⟩ (.int .u8 (lowB (ch s k)))).rowIs b t n (lowTo s (k + 1)) :=
  (h.set k _).congr fun j _ => by
    unfold lowTo
    by_cases e : j = k
    · subst e; simp
    · by_cases l : j < k
      · simp [e, l, (by omega : j < k + 1)]
      · simp [e, l]; intro h'; omega

set_option maxHeartbeats 400000 in
theorem lower_any (s : ByteArray) (w : World) (hs : s.size ≤ 1048576) :
    Calls Try.prog 14 #[.string s] w fun e w' => e = .returned (.string (txt s.size (fun i => lowB (ch s i)))) ∧ Below w.heap.size w w' := by
  have hmk := fun w => run_make_row' (P := Try.prog) 32 5 (.int .u8 0) 1 Try.underlying32 Try.info5' rfl .i64 .i64 s.size (by omega) (by omega) w
  go_enter Try.func14, Try.ntmps14
  go_wp2
  go_loopw [4] (fun iv wr => ∃ k : Nat, k ≤ s.size ∧ iv = .int .i64 k ∧ wr.rowIs w.heap.size 5 s.size (lowTo s k) ∧ Below w.heap.size w wr) (fun iv _ => s.size - (intOf iv).toNat)
  case atStart => exact ⟨0, Nat.zero_le _, rfl, (World.rowIs_made w (.int .u8 0) s.size 5).congr fun _ _ => by simp [lowTo], (Below.refl _ _).alloc (Nat.le_refl _) _⟩
  case round =>
    obtain ⟨k, hk, rfl, hrow, hbw⟩ := hrel
    by_cases hlt : k < s.size
    · have hch := ch_eq s k hlt
      obtain ⟨hb0, hb1⟩ := ch_bd s k
      have hcell := hrow.cell hlt
      have hfr := hrow.frozen k
      have hR := low_step hrow
      clear hrow hmk
      rcases lowB_or (ch s k) with ⟨h1, h2, e⟩ | ⟨h1, e⟩
      · have HE : Hid (lowB (ch s k) = ch s k + 32) := e
        clear e
        rw [HE.out] at hR
        go_wp2
        go_roundw
        case rel => exact ⟨k + 1, by omega, by go_num, hR, hbw.setCell (p := ⟨w.heap.size, k, none⟩) (Nat.le_refl _) _⟩
        case measure => simp [intOf]; omega
      · rw [e] at hR
        clear e
        rcases (by omega : ch s k < 65 ∨ 90 < ch s k) with h2 | h2
        · clear h1
          go_wp2
          go_roundw
          case rel => exact ⟨k + 1, by omega, by go_num, hR, hbw.setCell (p := ⟨w.heap.size, k, none⟩) (Nat.le_refl _) _⟩
          case measure => simp [intOf]; omega
        · clear h1
          have hd : decide (ch s k ≤ 90) = false := decide_eq_false (by omega)
          go_wp2
          go_roundw
          case rel => exact ⟨k + 1, by omega, by go_num, hR, hbw.setCell (p := ⟨w.heap.size, k, none⟩) (Nat.le_refl _) _⟩
          case measure => simp [intOf]; omega
    · obtain rfl : k = s.size := by omega
      have hrow2 := hrow.congr (g := fun j => .int .u8 (lowB (ch s j))) fun j hj => by simp [lowTo, hj]
      have hcv := conv_row (c := s.size) hrow2
      clear hmk
      go_wp2
      go_ret
      exact ⟨rfl, hbw⟩

theorem lo_eq (k : Nat) (h : k < ({ data := #[48, 49, 50, 51, 52, 53, 54, 55, 56, 57, 97, 98, 99, 100, 101, 102] } : ByteArray).size) : ((({ data := #[48, 49, 50, 51, 52, 53, 54, 55, 56, 57, 97, 98, 99, 100, 101, 102] } : ByteArray)[k]).toNat : Int) = loD (k : Int) := by
  have h' : k < 16 := h
  rcases (by omega : k = 0 ∨ k = 1 ∨ k = 2 ∨ k = 3 ∨ k = 4 ∨ k = 5 ∨ k = 6 ∨ k = 7 ∨ k = 8 ∨ k = 9 ∨ k = 10 ∨ k = 11 ∨ k = 12 ∨ k = 13 ∨ k = 14 ∨ k = 15) with rfl | rfl | rfl | rfl | rfl | rfl | rfl | rfl | rfl | rfl | rfl | rfl | rfl | rfl | rfl | rfl <;> rfl

/-- The text's byte at i, the digits' values given. -/
def strF (D : Nat → Int) (i : Nat) : Int := if i = 8 ∨ i = 13 ∨ i = 18 ∨ i = 23 then 45 else loD (D (dig i))
def strTo (D : Nat → Int) (k j : Nat) : Value := if j < k then .int .u8 (strF D j) else .int .u8 0
theorem str_step {w : World} {b t : Nat} {D : Nat → Int} {n k : Nat} {x : Int} (h : w.rowIs b t n (strTo D k)) (hx : x = strF D k) : (w.setCell ⟨b, k, none⟩ (.int .u8 x)).rowIs b t n (strTo D (k + 1)) := by
  subst hx
  exact (h.set k _).congr fun j _ => by
    unfold strTo
    by_cases e : j = k
    · subst e; simp
    · by_cases l : j < k
      · simp [e, l, (by omega : j < k + 1)]
      · simp [e, l]; intro h'; omega

def zz36 : Array Value := #[.int .u8 0, .int .u8 0, .int .u8 0, .int .u8 0, .int .u8 0, .int .u8 0, .int .u8 0, .int .u8 0, .int .u8 0, .int .u8 0, .int .u8 0, .int .u8 0, .int .u8 0, .int .u8 0, .int .u8 0, .int .u8 0, .int .u8 0, .int .u8 0, .int .u8 0, .int .u8 0, .int .u8 0, .int .u8 0, .int .u8 0, .int .u8 0, .int .u8 0, .int .u8 0, .int .u8 0, .int .u8 0, .int .u8 0, .int .u8 0, .int .u8 0, .int .u8 0, .int .u8 0, .int .u8 0, .int .u8 0, .int .u8 0]
theorem zeros36 (w : World) : (w.alloc (.cells zz36 38)).rowIs w.heap.size 38 36 (fun _ => .int .u8 0) :=
  ⟨zz36, Deep.blk_alloc_new _ _, rfl, fun i hi => by
    rcases (by omega : i = 0 ∨ i = 1 ∨ i = 2 ∨ i = 3 ∨ i = 4 ∨ i = 5 ∨ i = 6 ∨ i = 7 ∨ i = 8 ∨ i = 9 ∨ i = 10 ∨ i = 11 ∨ i = 12 ∨ i = 13 ∨ i = 14 ∨ i = 15 ∨ i = 16 ∨ i = 17 ∨ i = 18 ∨ i = 19 ∨ i = 20 ∨ i = 21 ∨ i = 22 ∨ i = 23 ∨ i = 24 ∨ i = 25 ∨ i = 26 ∨ i = 27 ∨ i = 28 ∨ i = 29 ∨ i = 30 ∨ i = 31 ∨ i = 32 ∨ i = 33 ∨ i = 34 ∨ i = 35) with rfl | rfl | rfl | rfl | rfl | rfl | rfl | rfl | rfl | rfl | rfl | rfl | rfl | rfl | rfl | rfl | rfl | rfl | rfl | rfl | rfl | rfl | rfl | rfl | rfl | rfl | rfl | rfl | rfl | rfl | rfl | rfl | rfl | rfl | rfl | rfl <;> rfl⟩
theorem arr_row (w : World) (f : Nat → Int) (t n : Nat) : (w.alloc (.cells (arr n f) t)).rowIs w.heap.size t n (fun i => .int .u8 (f i)) :=
  ⟨_, Deep.blk_alloc_new _ _, arr_size n f, fun _ hi => arr_at hi⟩

theorem and15 (X : Int) (h0 : 0 ≤ X) (h1 : X ≤ 255) : bits BinOp.and IntKind.u8 X 15 = X % 16 := bits_mask .u8 8 (by decide) wraps_u8 4 (by decide) X h0 (by omega)

set_option maxHeartbeats 1000000 in
theorem string_any (u D : Nat → Int) (w : World) (hD : ∀ j, j < 32 → 0 ≤ D j ∧ D j ≤ 15) (hu : ∀ m, m < 16 → u m = D (2 * m) * 16 + D (2 * m + 1)) :
    Calls Try.prog 25 #[.agg (arr 16 u)] w fun e w' => e = .returned (.string (txt 36 (strF D))) ∧ Below w.heap.size w w' := by
  go_enter Try.func25, Try.ntmps25
  go_wp2
  go_loopw [4, 5] (fun iv jv wr => ∃ k : Nat, k ≤ 36 ∧ iv = .int .i64 k ∧ jv = .int .i64 (dig k : Nat) ∧ wr.rowIs (w.heap.size + 1) 38 36 (strTo D k) ∧ wr.rowIs w.heap.size 33 16 (fun m => .int .u8 (u m)) ∧ Below w.heap.size w wr) (fun iv _ _ => 36 - (intOf iv).toNat)
  case atStart =>
    refine ⟨0, Nat.zero_le _, rfl, rfl, ?_, (arr_row w u 33 16).alloc _, ((Below.refl _ _).alloc (Nat.le_refl _) _).alloc (by simp) _⟩
    have h := zeros36 (w.alloc (.cells (arr 16 u) 33))
    have h2 : (w.alloc (.cells (arr 16 u) 33)).heap.size = w.heap.size + 1 := by simp
    rw [h2] at h
    exact h.congr fun m _ => by simp [strTo]
  case round =>
    obtain ⟨k, hk, rfl, rfl, hrow, hur, hbw⟩ := hrel
    by_cases hlt : k < 36
    · have hcell := hrow.cell hlt
      have hfr := hrow.frozen k
      by_cases hd : Dsh k
      · have HE : Hid (dig (k + 1) = dig k) := dig_dash hd
        have hR := str_step (x := 45) hrow (by unfold strF; rw [if_pos (by unfold Dsh at hd; exact hd)])
        clear hrow hD hu
        have h8 : ((k : Int) == 8) = true ∨ (((k : Int) == 8) = false ∧ ((k : Int) == 13) = true) ∨ (((k : Int) == 8) = false ∧ ((k : Int) == 13) = false ∧ ((k : Int) == 18) = true) ∨ (((k : Int) == 8) = false ∧ ((k : Int) == 13) = false ∧ ((k : Int) == 18) = false ∧ ((k : Int) == 23) = true) := by
          rcases hd with rfl | rfl | rfl | rfl <;> simp
        clear hd
        rcases h8 with h1 | ⟨h1, h2⟩ | ⟨h1, h2, h3⟩ | ⟨h1, h2, h3, h4⟩
        all_goals
          go_wp2
          go_roundw
          case rel => exact ⟨k + 1, by omega, by go_num, by rw [HE.out], hR, hur.setOther (a := ⟨w.heap.size + 1, k, none⟩) (by simp) _, hbw.setCell (p := ⟨w.heap.size + 1, k, none⟩) (by show _ ≤ w.heap.size + 1; omega) _⟩
          case measure => simp [intOf]; omega
      · have hk8 : ((k : Int) == 8) = false := beq_eq_false_iff_ne.2 (by unfold Dsh at hd; omega)
        have hk13 : ((k : Int) == 13) = false := beq_eq_false_iff_ne.2 (by unfold Dsh at hd; omega)
        have hk18 : ((k : Int) == 18) = false := beq_eq_false_iff_ne.2 (by unfold Dsh at hd; omega)
        have hk23 : ((k : Int) == 23) = false := beq_eq_false_iff_ne.2 (by unfold Dsh at hd; omega)
        have HE : Hid (dig (k + 1) = dig k + 1) := dig_other hd
        have hdl : dig k < 32 := by have := dig_or k; unfold Dsh at hd; omega
        have hbd := hD (dig k) hdl
        obtain ⟨v, hv⟩ : ∃ v : Nat, D (dig k) = (v : Int) := ⟨(D (dig k)).toNat, by omega⟩
        have hv16 : v < 16 := by omega
        have hR := str_step (x := loD (v : Int)) hrow (by unfold strF; rw [if_neg (by unfold Dsh at hd; exact hd), hv])
        have hlo := lo_eq v hv16
        obtain ⟨J, hJ⟩ : ∃ J, dig k = J := ⟨_, rfl⟩
        rw [hJ] at HE hdl hbd hv ⊢
        clear hJ hrow hd
        obtain ⟨m, hm⟩ : ∃ m, J / 2 = m := ⟨_, rfl⟩
        have hm16 : m < 16 := by omega
        have hcu := hur.cell hm16
        have hum := hu m hm16
        have hq : (J : Int) / 2 = (m : Int) := by omega
        have b0 := hD (2 * m) (by omega)
        have b1 := hD (2 * m + 1) (by omega)
        obtain ⟨B, hB⟩ : ∃ B, u m = B := ⟨_, rfl⟩
        rw [hB] at hum hcu
        have hB0 : 0 ≤ B := by omega
        have hB1 : B ≤ 255 := by omega
        rcases (by omega : J % 2 = 0 ∨ J % 2 = 1) with hj | hj
        · have hr : (J : Int) % 2 = 0 := by omega
          have e : D (2 * m) = (v : Int) := by rw [show 2 * m = J by omega]; exact hv
          have hand : bits BinOp.and IntKind.u8 (B / 16) 15 = (v : Int) := by
            rw [and15 _ (by omega) (by omega)]; omega
          clear hv hum b0 b1 hB hD hu hm hj e hbd
          go_wp2
          go_roundw
          case rel => exact ⟨k + 1, by omega, by go_num, by rw [HE.out]; go_num, hR, hur.setOther (a := ⟨w.heap.size + 1, k, none⟩) (by simp) _, hbw.setCell (p := ⟨w.heap.size + 1, k, none⟩) (by show _ ≤ w.heap.size + 1; omega) _⟩
          case measure => simp [intOf]; omega
        · have hr : (J : Int) % 2 = 1 := by omega
          have e : D (2 * m + 1) = (v : Int) := by rw [show 2 * m + 1 = J by omega]; exact hv
          have hand : bits BinOp.and IntKind.u8 B 15 = (v : Int) := by
            rw [and15 _ (by omega) (by omega)]; omega
          clear hv hum b0 b1 hB hD hu hm hj e hbd
          go_wp2
          go_roundw
          case rel => exact ⟨k + 1, by omega, by go_num, by rw [HE.out]; go_num, hR, hur.setOther (a := ⟨w.heap.size + 1, k, none⟩) (by simp) _, hbw.setCell (p := ⟨w.heap.size + 1, k, none⟩) (by show _ ≤ w.heap.size + 1; omega) _⟩
          case measure => simp [intOf]; omega
    · obtain rfl : k = 36 := by omega
      have hrow2 := hrow.congr (g := fun j => .int .u8 (strF D j)) fun j hj => by simp [strTo, hj]
      have hcv := conv_row (c := 36) hrow2
      clear hD hu hrow
      go_wp2
      go_ret
      exact ⟨rfl, hbw⟩

set_option maxHeartbeats 400000 in
theorem zzstring_any (f : Nat → Int) (n : Nat) (w : World) (h : IsU n f) :
    Calls Try.prog 16 #[.agg (arr 16 (byt f))] w fun e w' => e = .returned (.string (txt 36 (strF (nib f)))) ∧ Below w.heap.size w w' := by
  have hF := fun w => string_any (byt f) (nib f) w (fun j hj => nib_bd h hj) (fun m _ => rfl)
  have hr := row_arr (arr_row w (byt f) 24 16)
  clear h
  go_enter Try.func16, Try.ntmps16
  go_wp2_with (refine wpList_load_row rfl 24 (.tmp 1) rfl w.heap.size rfl 24 _ _ _ hr Try.underlying24 rfl (by rw [arr_size]; kernel_rfl) ?_)
  refine (hF _).mono ?_
  rintro e w1 ⟨rfl, hb⟩
  go_wp2
  go_ret
  exact ⟨rfl, ((Below.refl _ _).alloc (Nat.le_refl _) _).trans (hb.mono (by simp))⟩

/-- The text in lower case, by its digits. -/
theorem low_str {n : Nat} {f : Nat → Int} (h : IsU n f) {i : Nat} (hi : i < 36) : lowB (f i) = strF (nib f) i := by
  unfold strF
  by_cases hd : Dsh i
  · rw [if_pos (by unfold Dsh at hd; exact hd), (h.2 i hi).1 hd]; rfl
  · rw [if_neg (by unfold Dsh at hd; exact hd)]
    unfold nib
    rw [pos_dig hd, loD_hexV ((h.2 i hi).2 hd)]

theorem lower_u (s : ByteArray) (w : World) (h : IsU s.size (ch s)) :
    Calls Try.prog 14 #[.string s] w fun e w' => e = .returned (.string (txt 36 (strF (nib (ch s))))) ∧ Below w.heap.size w w' := by
  have h36 := h.1
  have hl := lower_any s w (by omega)
  rw [h36, txt_congr (fun i hi => low_str h hi)] at hl
  exact hl

set_option maxHeartbeats 400000 in
theorem zz21_any (s : ByteArray) (w : World) (hs : s.size ≤ maxLen) :
    Calls Try.prog 21 #[.string s] w fun e w' => RetB e (s.size ≤ 1048576) ∧ w' = w := by
  unfold maxLen at hs
  go_enter Try.func21, Try.ntmps21
  go_wp2
  all_goals go_ret
  · exact ⟨RetB.no (by omega), rfl⟩
  · exact ⟨RetB.yes (by omega), rfl⟩

set_option maxHeartbeats 400000 in
/-- The lower-case law. -/
theorem law8 (s : ByteArray) (w : World) (hs : s.size ≤ maxLen) :
    Calls Try.prog 8 #[.string s] w fun e w' => e = .returned (.bool true) ∧ Below w.heap.size w w' := by
  have hz := zz21_any s w hs
  unfold maxLen at hs
  by_cases hbig : s.size ≤ 1048576
  · have hd : decide ((1048576 : Int) < (s.size : Int)) = false := decide_eq_false (by omega)
    go_enter Try.func8, Try.ntmps8
    go_wp2_with fail
    refine hz.mono ?_
    rintro e w' ⟨⟨v, rfl, hv⟩, rfl⟩
    obtain rfl : v = true := hv.2 hbig
    clear hv hz
    go_wp2_with fail
    refine (zzisuuid_any s _).mono ?_
    rintro e w' ⟨⟨v, rfl, hv⟩, rfl⟩
    cases v
    · clear hv
      go_wp2
      go_ret
      exact ⟨rfl, Below.refl _ _⟩
    have hU := hv.1 rfl
    have HU : Hid (IsU s.size (ch s)) := hU
    clear hv hU
    go_wp2_with fail
    refine (zzparse_any s _ HU.out).mono ?_
    rintro e w1 ⟨rfl, hb1⟩
    go_wp2_with fail
    refine (zzstring_any _ _ _ HU.out).mono ?_
    rintro e w2 ⟨rfl, hb2⟩
    go_wp2_with fail
    refine (lower_u s _ HU.out).mono ?_
    rintro e w3 ⟨rfl, hb3⟩
    obtain ⟨A, hA⟩ : ∃ A, txt 36 (strF (nib (ch s))) = A := ⟨_, rfl⟩
    rw [hA]
    clear hA
    go_wp2
    go_ret
    have hb4 := hb1.trans (hb2.mono hb1.size)
    exact ⟨rfl, hb4.trans (hb3.mono hb4.size)⟩
  · go_enter Try.func8, Try.ntmps8
    go_wp2_with fail
    refine hz.mono ?_
    rintro e w' ⟨⟨v, rfl, hv⟩, rfl⟩
    obtain rfl : v = false := by
      cases v
      · rfl
      · exact absurd (hv.1 rfl) hbig
    clear hv hz
    go_wp2
    go_ret
    exact ⟨rfl, Below.refl _ _⟩

theorem strF_bd {D : Nat → Int} (h : ∀ j, 0 ≤ D j ∧ D j ≤ 15) (i : Nat) : 0 ≤ strF D i ∧ strF D i ≤ 255 := by
  unfold strF
  split
  · omega
  · have a := h (dig i); have b := loD_or (D (dig i)); omega
/-- Digits beyond the text count as 0. -/
def nib' (f : Nat → Int) (j : Nat) : Int := if j < 32 then nib f j else 0
theorem nib'_bd {n : Nat} {f : Nat → Int} (h : IsU n f) (j : Nat) : 0 ≤ nib' f j ∧ nib' f j ≤ 15 := by
  unfold nib'
  split
  · exact nib_bd h ‹_›
  · omega
theorem dig_lt {i : Nat} (h : i < 36) (_hd : ¬ Dsh i) : dig i < 32 := by have := dig_or i; omega
theorem strF' {f : Nat → Int} {i : Nat} (h : i < 36) : strF (nib f) i = strF (nib' f) i := by
  unfold strF
  split
  · rfl
  · next hn => unfold nib'; rw [if_pos (dig_lt h hn)]
/-- Equal bytes and equal texts. -/
theorem same_iff {n m : Nat} {f g : Nat → Int} (hf : IsU n f) (hg : IsU m g) : eqA (byt f) (byt g) = true ↔ txt 36 (strF (nib f)) = txt 36 (strF (nib g)) := by
  rw [eqA_iff]
  constructor
  · intro h
    have hn : ∀ j, j < 32 → nib f j = nib g j := by
      intro j hj
      have e := h (j / 2) (by omega)
      unfold byt at e
      have a0 := nib_bd hf (j := 2 * (j / 2)) (by omega); have a1 := nib_bd hf (j := 2 * (j / 2) + 1) (by omega)
      have b0 := nib_bd hg (j := 2 * (j / 2)) (by omega); have b1 := nib_bd hg (j := 2 * (j / 2) + 1) (by omega)
      rcases (by omega : j = 2 * (j / 2) ∨ j = 2 * (j / 2) + 1) with ej | ej
      · rw [ej]; omega
      · rw [ej]; omega
    refine txt_congr fun i hi => ?_
    unfold strF
    split
    · rfl
    · next hd => rw [hn _ (dig_lt hi hd)]
  · intro h k hk
    rw [txt_congr (fun i hi => strF' hi), txt_congr (f := strF (nib g)) (fun i hi => strF' hi)] at h
    have hn : ∀ j, j < 32 → nib f j = nib g j := by
      intro j hj
      obtain ⟨p1, p2, p3⟩ := pos_lt hj
      have e := txt_inj (strF_bd (nib'_bd hf)) (strF_bd (nib'_bd hg)) h p1
      unfold strF at e
      rw [if_neg (by unfold Dsh at p2; exact p2), if_neg (by unfold Dsh at p2; exact p2), p3] at e
      unfold nib' at e
      rw [if_pos hj, if_pos hj] at e
      have a := nib_bd hf hj; have b := nib_bd hg hj
      have c := loD_or (nib f j); have d := loD_or (nib g j)
      omega
    unfold byt
    rw [hn _ (by omega), hn _ (by omega)]

set_option maxHeartbeats 400000 in
theorem zz22_any (s t : ByteArray) (w : World) (hs : s.size ≤ maxLen) (ht : t.size ≤ maxLen) :
    Calls Try.prog 22 #[.string s, .string t] w fun e w' => RetB e (s.size + t.size ≤ 1048576) ∧ w' = w := by
  unfold maxLen at hs ht
  go_enter Try.func22, Try.ntmps22
  go_wp2
  all_goals go_ret
  · exact ⟨RetB.no (by omega), rfl⟩
  · exact ⟨RetB.no (by omega), rfl⟩
  · exact ⟨RetB.no (by omega), rfl⟩
  · exact ⟨RetB.yes (by omega), rfl⟩

set_option maxHeartbeats 1000000 in
/-- The law on two texts. -/
theorem law9 (s t : ByteArray) (w : World) (hs : s.size ≤ maxLen) (ht : t.size ≤ maxLen) :
    Calls Try.prog 9 #[.string s, .string t] w fun e w' => e = .returned (.bool true) ∧ Below w.heap.size w w' := by
  have hz := zz22_any s t w hs ht
  unfold maxLen at hs ht
  by_cases hbig : s.size + t.size ≤ 1048576
  · have hd1 : decide ((1048576 : Int) < (s.size : Int)) = false := decide_eq_false (by omega)
    have hd2 : decide ((1048576 : Int) < (t.size : Int)) = false := decide_eq_false (by omega)
    have hd3 : decide ((1048576 : Int) < (s.size : Int) + (t.size : Int)) = false := decide_eq_false (by omega)
    go_enter Try.func9, Try.ntmps9
    go_wp2_with fail
    refine hz.mono ?_
    rintro e w' ⟨⟨v, rfl, hv⟩, rfl⟩
    obtain rfl : v = true := hv.2 hbig
    clear hv hz
    go_wp2_with fail
    refine (zzisuuid_any s _).mono ?_
    rintro e w' ⟨⟨v, rfl, hv⟩, rfl⟩
    cases v
    · clear hv
      go_wp2
      go_ret
      exact ⟨rfl, Below.refl _ _⟩
    have hU := hv.1 rfl
    have HU : Hid (IsU s.size (ch s)) := hU
    clear hv hU
    go_wp2_with fail
    refine (zzisuuid_any t _).mono ?_
    rintro e w' ⟨⟨v, rfl, hv⟩, rfl⟩
    cases v
    · clear hv
      go_wp2
      go_ret
      exact ⟨rfl, Below.refl _ _⟩
    have hT := hv.1 rfl
    have HT : Hid (IsU t.size (ch t)) := hT
    clear hv hT
    go_wp2_with fail
    refine (zzparse_any s _ HU.out).mono ?_
    rintro e w1 ⟨rfl, hb1⟩
    go_wp2_with fail
    refine (zzparse_any t _ HT.out).mono ?_
    rintro e w2 ⟨rfl, hb2⟩
    have heq := eql_arr (byt (ch s)) (byt (ch t))
    have hsm := same_iff HU.out HT.out
    obtain ⟨V, hV⟩ : ∃ V, eqA (byt (ch s)) (byt (ch t)) = V := ⟨_, rfl⟩
    rw [hV] at heq hsm
    have hL1 := fun w => lower_u s w HU.out
    have hL2 := fun w => lower_u t w HT.out
    obtain ⟨A, hA⟩ : ∃ A, txt 36 (strF (nib (ch s))) = A := ⟨_, rfl⟩
    obtain ⟨B, hB⟩ : ∃ B, txt 36 (strF (nib (ch t))) = B := ⟨_, rfl⟩
    rw [hA] at hL1 hsm
    rw [hB] at hL2 hsm
    have HS : Hid (V = true ↔ A = B) := hsm
    clear hV hsm hA hB
    go_wp2_with fail
    refine (hL1 _).mono ?_
    rintro e w3 ⟨rfl, hb3⟩
    go_wp2_with fail
    refine (hL2 _).mono ?_
    rintro e w4 ⟨rfl, hb4⟩
    have g1 := hb1.trans (hb2.mono hb1.size)
    have g2 := g1.trans (hb3.mono g1.size)
    have g3 := g2.trans (hb4.mono g2.size)
    clear hb1 hb2 hb3 hb4 g1 g2 hL1 hL2 heq
    by_cases hAB : A = B
    · obtain rfl : V = true := HS.out.2 hAB
      subst hAB
      go_wp2
      go_ret
      exact ⟨rfl, g3⟩
    · have hVf : V = false := by
        cases V
        · rfl
        · exact absurd (HS.out.1 rfl) hAB
      subst hVf
      have hne : (A.toList == B.toList) = false := by
        rw [beq_eq_false_iff_ne]
        intro e
        apply hAB
        rw [ByteArray.toList_eq, ByteArray.toList_eq] at e
        exact ByteArray.ext (Array.toList_inj.1 e)
      clear hAB
      go_wp2
      go_ret
      exact ⟨rfl, g3⟩
  · go_enter Try.func9, Try.ntmps9
    go_wp2_with fail
    refine hz.mono ?_
    rintro e w' ⟨⟨v, rfl, hv⟩, rfl⟩
    obtain rfl : v = false := by
      cases v
      · rfl
      · exact absurd (hv.1 rfl) hbig
    clear hv hz
    go_wp2
    go_ret
    exact ⟨rfl, Below.refl _ _⟩

end Go.Proofs.Qxb6602424a
