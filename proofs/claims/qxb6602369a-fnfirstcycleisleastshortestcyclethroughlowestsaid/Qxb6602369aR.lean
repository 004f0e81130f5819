import Derived.Test.Qxb6602369aL
namespace Go.Proofs.Qxb6602369a
open Go.RowKit

/-- Every Ref names another node among n. -/
def RefsOK (l : List (Int × Int)) (own n : Int) : Prop := ∀ i, i < l.length → 0 ≤ (l.getD i (0, 0)).1 ∧ (l.getD i (0, 0)).1 < n ∧ (l.getD i (0, 0)).1 ≠ own

set_option maxHeartbeats 400000 in
theorem refs_any (lo c : Nat) (a : Option Addr) (l : List (Int × Int)) (own n : Int) (w : World) (hR : RdR lo w (.slice a l.length c) l) (hl : l.length ≤ 1048576) :
    Calls Try.prog 30 #[.slice a l.length c, .int .i64 own, .int .i64 n] w fun e w' => RetB e (RefsOK l own n) ∧ w' = w := by
  have hat := (hR.at).2
  clear hR
  go_enter Try.func30, Try.ntmps30
  go_wp2
  go_loop [7] (fun v => ∃ k : Nat, k ≤ l.length ∧ v = .int .i64 k ∧ Hid (∀ i, i < k → 0 ≤ (l.getD i (0, 0)).1 ∧ (l.getD i (0, 0)).1 < n ∧ (l.getD i (0, 0)).1 ≠ own)) (fun v => l.length - (intOf v).toNat)
  case atStart => exact ⟨0, Nat.zero_le _, rfl, fun _ h => absurd h (by omega)⟩
  case round =>
    obtain ⟨k, hk, rfl, HA⟩ := hrel
    by_cases hlt : k < l.length
    · rcases hat with rfl | ⟨b, o, rfl, _, _, hc⟩
      · simp at hlt
      obtain ⟨hc1, _⟩ := hc k hlt
      clear hc
      obtain ⟨x, hx⟩ : ∃ x, (l.getD k (0, 0)).1 = x := ⟨_, rfl⟩
      rw [hx] at hc1
      have HX : Hid ((l.getD k (0, 0)).1 = x) := hx
      clear hx
      by_cases h0 : x < 0
      · have HN : Hid (¬ RefsOK l own n) := fun h => by have := (h k hlt).1; rw [HX.out] at this; omega
        have hd : decide (x < 0) = true := decide_eq_true h0
        go_wp2
        go_ret
        exact ⟨RetB.no HN.out, rfl⟩
      have hd : decide (x < 0) = false := decide_eq_false h0
      by_cases h1 : n ≤ x
      · have HN : Hid (¬ RefsOK l own n) := fun h => by have := (h k hlt).2.1; rw [HX.out] at this; omega
        have hd1 : decide (n ≤ x) = true := decide_eq_true h1
        go_wp2
        go_ret
        exact ⟨RetB.no HN.out, rfl⟩
      have hd1 : decide (n ≤ x) = false := decide_eq_false h1
      by_cases h2 : x = own
      · have HN : Hid (¬ RefsOK l own n) := fun h => by have := (h k hlt).2.2; rw [HX.out] at this; exact this h2
        have hd2 : (x == own) = true := beq_iff_eq.2 h2
        clear h2
        go_wp2
        go_ret
        exact ⟨RetB.no HN.out, rfl⟩
      have hd2 : (x == own) = false := beq_eq_false_iff_ne.2 h2
      have HA' : Hid (∀ i, i < k + 1 → 0 ≤ (l.getD i (0, 0)).1 ∧ (l.getD i (0, 0)).1 < n ∧ (l.getD i (0, 0)).1 ≠ own) := fun i hi => by
        by_cases e : i = k
        · rw [e, HX.out]; exact ⟨by omega, by omega, h2⟩
        · exact HA.out i (by omega)
      clear h2
      go_wp2
      go_round
      case rel => exact ⟨k + 1, by omega, by go_num, HA'⟩
      case measure => simp [intOf]; omega
    · obtain rfl : k = l.length := by omega
      go_wp2
      go_ret
      exact ⟨RetB.yes HA.out, rfl⟩

/-- A node's own weight, and that of its first k parts. -/
def ptW (l : List (List (Int × Int))) : Nat → Nat
  | 0 => 0
  | k + 1 => ptW l k + (l.getD k []).length
def ndW (d : NodeD) : Nat := d.needs.length * 16 + d.parts.length * 24 + ptW d.parts d.parts.length * 16
def gW (G : List NodeD) : Nat → Nat
  | 0 => G.length * 56
  | k + 1 => gW G k + ndW (G.getD k nodeZ)
theorem ptW_mono (l : List (List (Int × Int))) {a b : Nat} (h : a ≤ b) : ptW l a ≤ ptW l b := by
  induction b with
  | zero => have : a = 0 := by omega
            subst this; exact Nat.le_refl _
  | succ b ih =>
    by_cases e : a = b + 1
    · subst e; exact Nat.le_refl _
    · have := ih (by omega); simp only [ptW]; omega
theorem gW_mono (G : List NodeD) {a b : Nat} (h : a ≤ b) : gW G a ≤ gW G b := by
  induction b with
  | zero => have : a = 0 := by omega
            subst this; exact Nat.le_refl _
  | succ b ih =>
    by_cases e : a = b + 1
    · subst e; exact Nat.le_refl _
    · have := ih (by omega); simp only [gW]; omega

/-- A node, as a walk over the nodes is told of it. -/
theorem RdN.at {lo : Nat} {w : World} {a : Option Addr} {n c : Nat} {G : List NodeD} (h : RdN lo w (.slice a n c) G) : n = G.length ∧ (G = [] ∨ ∃ b o, a = some ⟨b, o, none⟩ ∧ lo ≤ b ∧ b < w.heap.size ∧ ∀ i, i < G.length → ∃ a1 c1 a2 c2, w.cell? ⟨b, o + i * 3, none⟩ = some (.slice a1 (G.getD i nodeZ).needs.length c1) ∧ w.cell? ⟨b, o + i * 3 + 1, none⟩ = some (.slice a2 (G.getD i nodeZ).parts.length c2) ∧ w.cell? ⟨b, o + i * 3 + 2, none⟩ = some (.bool (G.getD i nodeZ).lead) ∧
    RdR lo w (.slice a1 (G.getD i nodeZ).needs.length c1) (G.getD i nodeZ).needs ∧ RdP lo w (.slice a2 (G.getD i nodeZ).parts.length c2) (G.getD i nodeZ).parts) := by
  obtain ⟨a', c', e, hx⟩ := h
  cases e
  refine ⟨rfl, ?_⟩
  by_cases hl : G = []
  · exact .inl hl
  · obtain ⟨b, o, ea, h1, h2, h3⟩ := hx hl
    refine .inr ⟨b, o, ea, h1, h2, fun i hi => ?_⟩
    obtain ⟨u1, u2, g1, g2, g3, r1, r2⟩ := h3 i hi
    have r1' := r1
    have r2' := r2
    obtain ⟨a1, c1, rfl, _⟩ := r1
    obtain ⟨a2, c2, rfl, _⟩ := r2
    exact ⟨a1, c1, a2, c2, g1, g2, g3, r1', r2'⟩
theorem RdP.at {lo : Nat} {w : World} {a : Option Addr} {n c : Nat} {l : List (List (Int × Int))} (h : RdP lo w (.slice a n c) l) : n = l.length ∧ (l = [] ∨ ∃ b o, a = some ⟨b, o, none⟩ ∧ lo ≤ b ∧ b < w.heap.size ∧ ∀ i, i < l.length → ∃ a1 c1, w.cell? ⟨b, o + i, none⟩ = some (.slice a1 (l.getD i []).length c1) ∧ RdR lo w (.slice a1 (l.getD i []).length c1) (l.getD i [])) := by
  obtain ⟨a', c', e, hx⟩ := h
  cases e
  refine ⟨rfl, ?_⟩
  by_cases hl : l = []
  · exact .inl hl
  · obtain ⟨b, o, ea, h1, h2, h3⟩ := hx hl
    refine .inr ⟨b, o, ea, h1, h2, fun i hi => ?_⟩
    obtain ⟨u, g1, r1⟩ := h3 i hi
    have r1' := r1
    obtain ⟨a1, c1, rfl, _⟩ := r1
    exact ⟨a1, c1, g1, r1'⟩

/-- The call returned some bool. -/
def AnyB (e : Ending) : Prop := ∃ v : Bool, e = .returned (.bool v)
theorem AnyB.mk (v : Bool) : AnyB (.returned (.bool v)) := ⟨v, rfl⟩

set_option maxRecDepth 100000 in
set_option maxHeartbeats 1000000 in
theorem zz14_any (lo c : Nat) (a : Option Addr) (G : List NodeD) (w : World) (hR : RdN lo w (.slice a G.length c) G) :
    Calls Try.prog 14 #[.slice a G.length c] w fun e w' => AnyB e ∧ w' = w := by
  have hat := (hR.at).2
  clear hR
  by_cases hbig : 1048576 < G.length
  · have hd : decide ((1048576 : Int) < (G.length : Int)) = true := decide_eq_true (by omega)
    go_enter Try.func14, Try.ntmps14
    go_wp2
    go_ret
    exact ⟨AnyB.mk _, rfl⟩
  have hd : decide ((1048576 : Int) < (G.length : Int)) = false := decide_eq_false (by omega)
  go_enter Try.func14, Try.ntmps14
  go_wp2
  go_loop [3, 4] (fun s v => ∃ k z : Nat, k ≤ G.length ∧ v = .int .i64 k ∧ s = .int .i64 z ∧ z ≤ 1048576) (fun _ v => G.length - (intOf v).toNat)
  case atStart => exact ⟨0, G.length, Nat.zero_le _, rfl, rfl, by omega⟩
  case round =>
    obtain ⟨k, z, hk, rfl, rfl, hz⟩ := hrel
    by_cases hlt : k < G.length
    · rcases hat with rfl | ⟨b, o, rfl, _, _, hc⟩
      · simp at hlt
      obtain ⟨a1, c1, a2, c2, g1, g2, g3, r1, r2⟩ := hc k hlt
      clear hc r1
      obtain ⟨N1, hN1⟩ : ∃ N1, (G.getD k nodeZ).needs.length = N1 := ⟨_, rfl⟩
      rw [hN1] at g1
      have hat2 := (r2.at).2
      obtain ⟨P, hP⟩ : ∃ P, (G.getD k nodeZ).parts = P := ⟨_, rfl⟩
      rw [hP] at g2 hat2
      clear r2 hP hN1
      by_cases h1 : 1048576 < N1
      · have e1 : decide ((1048576 : Int) < (N1 : Int)) = true := decide_eq_true (by omega)
        go_wp2
        go_ret
        exact ⟨AnyB.mk _, rfl⟩
      have e1 : decide ((1048576 : Int) < (N1 : Int)) = false := decide_eq_false (by omega)
      by_cases h2 : 1048576 < z + N1
      · have e2 : decide ((1048576 : Int) < (z : Int) + (N1 : Int)) = true := decide_eq_true (by omega)
        go_wp2
        go_ret
        exact ⟨AnyB.mk _, rfl⟩
      have e2 : decide ((1048576 : Int) < (z : Int) + (N1 : Int)) = false := decide_eq_false (by omega)
      by_cases h3 : 1048576 < P.length
      · have e3 : decide ((1048576 : Int) < (P.length : Int)) = true := decide_eq_true (by omega)
        go_wp2
        go_ret
        exact ⟨AnyB.mk _, rfl⟩
      have e3 : decide ((1048576 : Int) < (P.length : Int)) = false := decide_eq_false (by omega)
      by_cases h4 : 1048576 < z + N1 + P.length
      · have e4 : decide ((1048576 : Int) < (z : Int) + (N1 : Int) + (P.length : Int)) = true := decide_eq_true (by omega)
        go_wp2
        go_ret
        exact ⟨AnyB.mk _, rfl⟩
      have e4 : decide ((1048576 : Int) < (z : Int) + (N1 : Int) + (P.length : Int)) = false := decide_eq_false (by omega)
      go_wp2
      go_loop [3, 5] (fun s v => ∃ j y : Nat, j ≤ P.length ∧ v = .int .i64 j ∧ s = .int .i64 y ∧ y ≤ 1048576) (fun _ v => P.length - (intOf v).toNat)
      case atStart => exact ⟨0, z + N1 + P.length, Nat.zero_le _, rfl, by go_num, by omega⟩
      case round =>
        obtain ⟨j, y, hj, rfl, rfl, hy⟩ := hrel
        by_cases hjl : j < P.length
        · rcases hat2 with rfl | ⟨b2, o2, rfl, _, _, hc2⟩
          · simp at hjl
          obtain ⟨a3, c3, g4, _⟩ := hc2 j hjl
          clear hc2
          obtain ⟨M, hM⟩ : ∃ M, (P.getD j []).length = M := ⟨_, rfl⟩
          rw [hM] at g4
          clear hM
          by_cases h5 : 1048576 < M
          · have e5 : decide ((1048576 : Int) < (M : Int)) = true := decide_eq_true (by omega)
            go_wp2
            go_ret
            exact ⟨AnyB.mk _, rfl⟩
          have e5 : decide ((1048576 : Int) < (M : Int)) = false := decide_eq_false (by omega)
          by_cases h6 : 1048576 < y + M
          · have e6 : decide ((1048576 : Int) < (y : Int) + (M : Int)) = true := decide_eq_true (by omega)
            go_wp2
            go_ret
            exact ⟨AnyB.mk _, rfl⟩
          have e6 : decide ((1048576 : Int) < (y : Int) + (M : Int)) = false := decide_eq_false (by omega)
          go_wp2
          go_round
          case rel => exact ⟨j + 1, y + M, by omega, by go_num, by go_num, by omega⟩
          case measure => simp [intOf]; omega
        · obtain rfl : j = P.length := by omega
          go_wp2
          go_round
          case rel => exact ⟨k + 1, y, by omega, by go_num, rfl, hy⟩
          case measure => simp [intOf]; omega
    · go_wp2
      go_ret
      exact ⟨AnyB.mk _, rfl⟩

/-- The call returned a number; at most the ceiling just where p may be drawn. -/
def RetC (e : Ending) (p : Prop) : Prop := ∃ x : Int, e = .returned (.int .i64 x) ∧ (x ≤ 1048576 → p)
theorem RetC.big {p : Prop} : RetC (.returned (.int .i64 1048577)) p := ⟨_, rfl, fun h => by omega⟩

set_option maxRecDepth 100000 in
set_option maxHeartbeats 2000000 in
theorem nodesBytes_any (lo c : Nat) (a : Option Addr) (G : List NodeD) (w : World) (hR : RdN lo w (.slice a G.length c) G) :
    Calls Try.prog 15 #[.slice a G.length c] w fun e w' => RetC e (gW G G.length ≤ 1048576) ∧ Below w.heap.size w w' := by
  have hat := (hR.at).2
  clear hR
  by_cases hbig : 1048576 < G.length
  · have hd : decide ((1048576 : Int) < (G.length : Int)) = true := decide_eq_true (by omega)
    go_enter Try.func15, Try.ntmps15
    go_wp2
    go_ret
    exact ⟨RetC.big, Below.refl _ _⟩
  have hd : decide ((1048576 : Int) < (G.length : Int)) = false := decide_eq_false (by omega)
  by_cases hbig2 : 1048576 < G.length * 56
  · have hd : decide ((1048576 : Int) < (G.length : Int) * 56) = true := decide_eq_true (by omega)
    go_enter Try.func15, Try.ntmps15
    go_wp2
    go_ret
    exact ⟨RetC.big, Below.refl _ _⟩
  have hd : decide ((1048576 : Int) < (G.length : Int) * 56) = false := decide_eq_false (by omega)
  go_enter Try.func15, Try.ntmps15
  go_wp2
  go_loopw [3, 4] (fun s v wr => ∃ k : Nat, k ≤ G.length ∧ v = .int .i64 k ∧ s = .int .i64 (gW G k : Nat) ∧ gW G k ≤ 1048576 ∧ Below w.heap.size w wr) (fun _ v _ => G.length - (intOf v).toNat)
  case atStart => exact ⟨0, Nat.zero_le _, rfl, by simp [gW], by simp only [gW]; omega, Below.refl _ _⟩
  case round =>
    obtain ⟨k, hk, rfl, rfl, hz, hbw⟩ := hrel
    by_cases hlt : k < G.length
    · rcases hat with rfl | ⟨b, o, rfl, hlo, hb, hc⟩
      · simp at hlt
      obtain ⟨a1, c1, a2, c2, g1', g2', g3, r1, r2⟩ := hc k hlt
      have g1 := (hbw.cell (p := ⟨b, o + k * 3, none⟩) hb).trans g1'
      have g2 := (hbw.cell (p := ⟨b, o + k * 3 + 1, none⟩) hb).trans g2'
      have hat2 := ((r2.keep (⟨hbw.size, fun k _ hk => hbw.block k hk⟩ : Kp lo w wr)).at).2
      clear hc r1 g1' g2' g3 r2
      have HG : Hid (gW G (k + 1) = gW G k + ndW (G.getD k nodeZ)) := rfl
      obtain ⟨d, hdd⟩ : ∃ d, G.getD k nodeZ = d := ⟨_, rfl⟩
      rw [hdd] at g1 g2 hat2 HG
      clear hdd
      obtain ⟨N1, hN1⟩ : ∃ N1, d.needs.length = N1 := ⟨_, rfl⟩
      obtain ⟨P, hP⟩ : ∃ P, d.parts = P := ⟨_, rfl⟩
      have HD : Hid (ndW d = N1 * 16 + P.length * 24 + ptW P P.length * 16) := by show _ = _; unfold ndW; rw [hN1, hP]
      rw [hN1] at g1
      rw [hP] at g2 hat2
      clear hP hN1
      obtain ⟨z, hzz⟩ : ∃ z, gW G k = z := ⟨_, rfl⟩
      rw [hzz] at hz HG ⊢
      have HZ : Hid (gW G k = z) := hzz
      clear hzz
      by_cases h1 : 1048576 < N1
      · have e1 : decide ((1048576 : Int) < (N1 : Int)) = true := decide_eq_true (by omega)
        go_wp2
        go_ret
        exact ⟨RetC.big, hbw⟩
      have e1 : decide ((1048576 : Int) < (N1 : Int)) = false := decide_eq_false (by omega)
      by_cases h3 : 1048576 < P.length
      · have e3 : decide ((1048576 : Int) < (P.length : Int)) = true := decide_eq_true (by omega)
        go_wp2
        go_ret
        exact ⟨RetC.big, hbw⟩
      have e3 : decide ((1048576 : Int) < (P.length : Int)) = false := decide_eq_false (by omega)
      by_cases h4 : 1048576 < z + (N1 * 16 + P.length * 24)
      · have e4 : decide ((1048576 : Int) < (z : Int) + ((N1 : Int) * 16 + (P.length : Int) * 24)) = true := decide_eq_true (by omega)
        go_wp2
        go_quiet (fail)
        go_wp2
        go_ret
        exact ⟨RetC.big, below_drewN hbw _⟩
      have e4 : decide ((1048576 : Int) < (z : Int) + ((N1 : Int) * 16 + (P.length : Int) * 24)) = false := decide_eq_false (by omega)
      go_wp2
      go_quiet (fail)
      go_wp2
      have h4' : z + (N1 * 16 + P.length * 24) ≤ 1048576 := by omega
      go_loop [3, 5] (fun s v => ∃ j y : Nat, j ≤ P.length ∧ v = .int .i64 j ∧ s = .int .i64 y ∧ y ≤ 1048576 ∧ Hid (y = z + (N1 * 16 + P.length * 24) + ptW P j * 16)) (fun _ v => P.length - (intOf v).toNat)
      case atStart => exact ⟨0, z + (N1 * 16 + P.length * 24), Nat.zero_le _, rfl, by go_num, by omega, by show _ = _; simp [ptW]⟩
      case round =>
        obtain ⟨j, y, hj, rfl, rfl, hy, HY⟩ := hrel
        by_cases hjl : j < P.length
        · rcases hat2 with rfl | ⟨b2, o2, rfl, _, _, hc2⟩
          · simp at hjl
          obtain ⟨a3, c3, g4, _⟩ := hc2 j hjl
          clear hc2
          have HP1 : Hid (ptW P (j + 1) = ptW P j + (P.getD j []).length) := rfl
          obtain ⟨M, hM⟩ : ∃ M, (P.getD j []).length = M := ⟨_, rfl⟩
          rw [hM] at g4 HP1
          clear hM
          by_cases h5 : 1048576 < M
          · have e5 : decide ((1048576 : Int) < (M : Int)) = true := decide_eq_true (by omega)
            go_wp2
            go_ret
            exact ⟨RetC.big, below_drewN hbw _⟩
          have e5 : decide ((1048576 : Int) < (M : Int)) = false := decide_eq_false (by omega)
          by_cases h6 : 1048576 < y + M * 16
          · have e6 : decide ((1048576 : Int) < (y : Int) + (M : Int) * 16) = true := decide_eq_true (by omega)
            go_wp2
            go_ret
            exact ⟨RetC.big, below_drewN hbw _⟩
          have e6 : decide ((1048576 : Int) < (y : Int) + (M : Int) * 16) = false := decide_eq_false (by omega)
          go_wp2
          go_round
          case rel => exact ⟨j + 1, y + M * 16, by omega, by go_num, by go_num, by omega, by show _ = _; have h7 := HP1.out; have h8 := HY.out; omega⟩
          case measure => simp [intOf]; omega
        · obtain rfl : j = P.length := by omega
          have hy2 : gW G (k + 1) = y := by have h7 := HG.out; have h8 := HY.out; have h9 := HD.out; omega
          have HY2 : Hid (gW G (k + 1) = y) := hy2
          clear hy2
          go_wp2
          go_roundw
          case rel => exact ⟨k + 1, by omega, by go_num, by rw [HY2.out], by rw [HY2.out]; exact hy, below_drewN hbw _⟩
          case measure => simp [intOf]; omega
    · obtain rfl : k = G.length := by omega
      go_wp2
      go_ret
      exact ⟨⟨_, rfl, fun _ => hz⟩, hbw⟩

/-- Every need of the first k parts names another node. -/
def PartsOK (l : List (List (Int × Int))) (own n : Int) : Prop := ∀ i, i < l.length → RefsOK (l.getD i []) own n
def NodesOK (G : List NodeD) : Prop := ∀ i, i < G.length → RefsOK (G.getD i nodeZ).needs (i : Nat) (G.length : Nat) ∧ PartsOK (G.getD i nodeZ).parts (i : Nat) (G.length : Nat)

theorem ndW_le (G : List NodeD) {k : Nat} (hk : k < G.length) : ndW (G.getD k nodeZ) ≤ gW G G.length := by
  have h1 := gW_mono G (show k + 1 ≤ G.length by omega)
  simp only [gW] at h1
  omega
theorem gW_len (G : List NodeD) (k : Nat) : G.length * 56 ≤ gW G k := by
  have := gW_mono G (Nat.zero_le k); simp only [gW] at this; exact this
theorem ptW_le (l : List (List (Int × Int))) {k : Nat} (hk : k < l.length) : (l.getD k []).length ≤ ptW l l.length := by
  have h1 := ptW_mono l (show k + 1 ≤ l.length by omega)
  simp only [ptW] at h1
  omega

set_option maxRecDepth 100000 in
set_option maxHeartbeats 2000000 in
theorem needOthers_any (lo c : Nat) (a : Option Addr) (G : List NodeD) (w : World) (hR : RdN lo w (.slice a G.length c) G) (hW : gW G G.length ≤ 1048576) :
    Calls Try.prog 16 #[.slice a G.length c] w fun e w' => RetB e (NodesOK G) ∧ w' = w := by
  have hat := (hR.at).2
  have hGl := gW_len G G.length
  clear hR
  go_enter Try.func16, Try.ntmps16
  go_wp2
  go_loop [3] (fun v => ∃ k : Nat, k ≤ G.length ∧ v = .int .i64 k ∧ Hid (∀ i, i < k → RefsOK (G.getD i nodeZ).needs (i : Nat) (G.length : Nat) ∧ PartsOK (G.getD i nodeZ).parts (i : Nat) (G.length : Nat))) (fun v => G.length - (intOf v).toNat)
  case atStart => exact ⟨0, Nat.zero_le _, rfl, fun _ h => absurd h (by omega)⟩
  case round =>
    obtain ⟨k, hk, rfl, HA⟩ := hrel
    by_cases hlt : k < G.length
    · rcases hat with rfl | ⟨b, o, rfl, hlo, hb, hc⟩
      · simp at hlt
      obtain ⟨a1, c1, a2, c2, g1, g2, g3, r1, r2⟩ := hc k hlt
      have hat2 := (r2.at).2
      have hnd := ndW_le G hlt
      clear hc r2 g3
      have HK : Hid (∀ d, G.getD k nodeZ = d → RefsOK d.needs (k : Nat) (G.length : Nat) → PartsOK d.parts (k : Nat) (G.length : Nat) → ∀ i, i < k + 1 → RefsOK (G.getD i nodeZ).needs (i : Nat) (G.length : Nat) ∧ PartsOK (G.getD i nodeZ).parts (i : Nat) (G.length : Nat)) := fun d e h1 h2 i hi => by
        by_cases e' : i = k
        · rw [e', e]; exact ⟨h1, h2⟩
        · exact HA.out i (by omega)
      have HNO : Hid (∀ d, G.getD k nodeZ = d → ¬ (RefsOK d.needs (k : Nat) (G.length : Nat) ∧ PartsOK d.parts (k : Nat) (G.length : Nat)) → ¬ NodesOK G) := fun d e h1 h2 => h1 (by rw [← e]; exact h2 k hlt)
      obtain ⟨d, hdd⟩ : ∃ d, G.getD k nodeZ = d := ⟨_, rfl⟩
      rw [hdd] at g1 g2 hat2 hnd r1
      have HDD : Hid (G.getD k nodeZ = d) := hdd
      clear hdd HA
      obtain ⟨N, hN⟩ : ∃ N, d.needs = N := ⟨_, rfl⟩
      obtain ⟨P, hP⟩ : ∃ P, d.parts = P := ⟨_, rfl⟩
      unfold ndW at hnd
      rw [hN] at g1 r1 hnd
      rw [hP] at g2 hat2 hnd
      have HN : Hid (d.needs = N) := hN
      have HP : Hid (d.parts = P) := hP
      clear hN hP
      have hF := fun w' => refs_any lo c1 a1 N (k : Int) (G.length : Int) w' 
      have hF1 := hF w r1 (by omega)
      clear hF r1
      go_wp2_with fail
      refine hF1.mono ?_
      rintro e w' ⟨⟨v, rfl, hv⟩, rfl⟩
      have HV : Hid (v = true ↔ RefsOK N (k : Int) (G.length : Int)) := hv
      clear hv hF1
      cases v
      · have HX : Hid (¬ NodesOK G) := HNO.out d HDD.out (fun h => by have := HV.out.2 (by rw [← HN.out]; exact h.1); cases this)
        clear hat2
        go_wp2
        go_ret
        exact ⟨RetB.no HX.out, rfl⟩
      go_wp2
      go_loop [4] (fun v => ∃ j : Nat, j ≤ P.length ∧ v = .int .i64 j ∧ Hid (∀ i, i < j → RefsOK (P.getD i []) (k : Nat) (G.length : Nat))) (fun v => P.length - (intOf v).toNat)
      case atStart => exact ⟨0, Nat.zero_le _, rfl, fun _ h => absurd h (by omega)⟩
      case round =>
        obtain ⟨j, hj, rfl, HB⟩ := hrel
        by_cases hjl : j < P.length
        · rcases hat2 with rfl | ⟨b2, o2, rfl, _, _, hc2⟩
          · simp at hjl
          obtain ⟨a3, c3, g4, r3⟩ := hc2 j hjl
          have hpl := ptW_le P hjl
          clear hc2
          have HBS : Hid (∀ q, P.getD j [] = q → RefsOK q (k : Nat) (G.length : Nat) → ∀ i, i < j + 1 → RefsOK (P.getD i []) (k : Nat) (G.length : Nat)) := fun q e h i hi => by
            by_cases e' : i = j
            · rw [e', e]; exact h
            · exact HB.out i (by omega)
          have HNP : Hid (∀ q, P.getD j [] = q → ¬ RefsOK q (k : Nat) (G.length : Nat) → ¬ PartsOK P (k : Nat) (G.length : Nat)) := fun q e h h2 => h (by rw [← e]; exact h2 j hjl)
          obtain ⟨q, hq⟩ : ∃ q, P.getD j [] = q := ⟨_, rfl⟩
          rw [hq] at g4 r3 hpl
          have HQ : Hid (P.getD j [] = q) := hq
          clear hq HB
          have hF2 := refs_any lo c3 a3 q (k : Int) (G.length : Int) _ r3 (by omega)
          clear r3
          go_wp2_with fail
          refine hF2.mono ?_
          rintro e w' ⟨⟨v, rfl, hv⟩, rfl⟩
          have HV2 : Hid (v = true ↔ RefsOK q (k : Int) (G.length : Int)) := hv
          clear hv hF2
          cases v
          · have HX : Hid (¬ NodesOK G) := HNO.out d HDD.out (fun h => HNP.out q HQ.out (fun h2 => by have := HV2.out.2 h2; cases this) (by rw [← HP.out]; exact h.2))
            go_wp2
            go_ret
            exact ⟨RetB.no HX.out, rfl⟩
          go_wp2
          go_round
          case rel => exact ⟨j + 1, by omega, by go_num, HBS.out q HQ.out (HV2.out.1 (by trivial))⟩
          case measure => simp [intOf]; omega
        · obtain rfl : j = P.length := by omega
          have HK2 : Hid (∀ i, i < k + 1 → RefsOK (G.getD i nodeZ).needs (i : Nat) (G.length : Nat) ∧ PartsOK (G.getD i nodeZ).parts (i : Nat) (G.length : Nat)) := HK.out d HDD.out (by rw [HN.out]; exact HV.out.1 (by trivial)) (by rw [HP.out]; exact HB.out)
          clear hat2
          go_wp2
          go_round
          case rel => exact ⟨k + 1, by omega, by go_num, HK2⟩
          case measure => simp [intOf]; omega
    · obtain rfl : k = G.length := by omega
      go_wp2
      go_ret
      exact ⟨RetB.yes HA.out, rfl⟩
end Go.Proofs.Qxb6602369a
