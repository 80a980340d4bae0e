/- LawS3911BModel: the law's own walk (function 3). -/
import Derived.Test.YbulkcbyyWalkB2
import Derived.Test.YbulkcbyyCells
import Derived.Deep.RegionHeld3
import Derived.BigRegion
namespace Go.Proofs.Ybulkcbyy
open Go.RowKit PlainB

theorem Yba.info2 : (Yba.prog.info? 2).map (fun i => (i.zero, i.size, i.bytes)) = some (some (.int .i64 0), 1, 8) := by kernel_rfl
theorem Yba.info4 : (Yba.prog.info? 4).map (fun i => (i.zero, i.size, i.bytes)) = some (some (.bool false), 1, 1) := by kernel_rfl

/-- the covered flag that the law lays -/
def Cf (V : Nat → Bool) (n i : Nat) : Bool := V i && decide (i + 1 < n)

theorem Cf_yes {V : Nat → Bool} {n k : Nat} (h : V k = true) : decide ((k : Int) < (n : Int) - 1) = Cf V n k := by
  unfold Cf; rw [h, Bool.true_and]; exact decide_eq_decide.2 (by omega)
theorem Cf_zero {V : Nat → Bool} {n : Nat} (h : V 0 = true) : decide ((1 : Int) < (n : Int)) = Cf V n 0 := by
  unfold Cf; rw [h, Bool.true_and]; exact decide_eq_decide.2 (by omega)
theorem Cf_no {V : Nat → Bool} {n k : Nat} (h : V k = false) : false = Cf V n k := by
  unfold Cf; rw [h, Bool.false_and]

def TR (T : Nat → Int) (k j : Nat) : Value := if j < k then .int .i64 (T j) else .int .i64 0
def CR (C : Nat → Bool) (k j : Nat) : Value := if j < k then .bool (C j) else .bool false

theorem TR_zero (T : Nat → Int) (j : Nat) : TR T 0 j = .int .i64 0 := by simp [TR]
theorem CR_zero (C : Nat → Bool) (j : Nat) : CR C 0 j = .bool false := by simp [CR]
theorem TR_at (T : Nat → Int) (k : Nat) : TR T k k = .int .i64 0 := by simp [TR]
theorem CR_at (C : Nat → Bool) (k : Nat) : CR C k k = .bool false := by simp [CR]
theorem TR_lt (T : Nat → Int) {k j : Nat} (h : j < k) : TR T k j = .int .i64 (T j) := by simp [TR, h]
theorem CR_lt (C : Nat → Bool) {k j : Nat} (h : j < k) : CR C k j = .bool (C j) := by simp [CR, h]
theorem TR_step (T : Nat → Int) (k j : Nat) : (if j = k then Value.int .i64 (T k) else TR T k j) = TR T (k + 1) j := by
  unfold TR
  by_cases e : j = k
  · subst e; simp
  · rw [if_neg e]
    by_cases h : j < k
    · rw [if_pos h, if_pos (by omega)]
    · rw [if_neg h, if_neg (by omega)]
theorem CR_step (C : Nat → Bool) (k j : Nat) : (if j = k then Value.bool (C k) else CR C k j) = CR C (k + 1) j := by
  unfold CR
  by_cases e : j = k
  · subst e; simp
  · rw [if_neg e]
    by_cases h : j < k
    · rw [if_pos h, if_pos (by omega)]
    · rw [if_neg h, if_neg (by omega)]

theorem cell_set_off {w : World} {g i j : Nat} {v : Value} (h : i ≠ j) : (w.setCell ⟨g, i, none⟩ v).cell? ⟨g, j, none⟩ = w.cell? ⟨g, j, none⟩ :=
  World.cell?_setCell_other _ _ _ _ (by intro e; cases e; exact h rfl)
theorem cell_set_far {w : World} {g g' i j : Nat} {v : Value} (h : g ≠ g') : (w.setCell ⟨g, i, none⟩ v).cell? ⟨g', j, none⟩ = w.cell? ⟨g', j, none⟩ :=
  World.cell?_setCell_other _ _ _ _ (by intro e; cases e; exact h rfl)

theorem wrapI {a : Int} (h1 : -9223372036854775808 ≤ a) (h2 : a ≤ 9223372036854775807) : IntKind.i64.wrap a = a := by
  unfold IntKind.wrap; simp [IntKind.bits, IntKind.signed]; omega

theorem rel_step {w wr : World} {g0 g1 g2 n k : Nat} {T : Nat → Int} {C : Nat → Bool} (L0 : g0 < g1) (L1 : g1 < g2) (R0 : Row wr g0 n (TR T k)) (R1 : Row wr g1 n (CR C k)) (R2 : Row wr g2 n (fun _ => .int .i64 0)) (B : Below g0 w wr)
    (x : Int) (c : Bool) (hx : x = T k) (hc : c = C k) :
    Row ((wr.setCell ⟨g0, k, none⟩ (.int .i64 x)).setCell ⟨g1, k, none⟩ (.bool c)) g0 n (TR T (k + 1)) ∧ Row ((wr.setCell ⟨g0, k, none⟩ (.int .i64 x)).setCell ⟨g1, k, none⟩ (.bool c)) g1 n (CR C (k + 1)) ∧
    Row ((wr.setCell ⟨g0, k, none⟩ (.int .i64 x)).setCell ⟨g1, k, none⟩ (.bool c)) g2 n (fun _ => .int .i64 0) ∧ Below g0 w ((wr.setCell ⟨g0, k, none⟩ (.int .i64 x)).setCell ⟨g1, k, none⟩ (.bool c)) := by
  subst hx hc
  exact ⟨((R0.set _).same (fun j _ => TR_step T k j)).other (by omega) _, ((R1.other (by omega) _).set _).same (fun j _ => CR_step C k j), (R2.other (by omega) _).other (by omega) _,
    (B.setCell (by simp) _).setCell (by simp; omega) _⟩

theorem fine_of {base : Int} {G : Nat → Int} {V : Nat → Bool} {n : Nat} (hn : n ≤ 1024) (hb1 : -2147483648 ≤ base) (hb2 : base ≤ 2147483647) (hG : ∀ i, i < n → 0 ≤ G i ∧ G i ≤ 65535) : Fine n (Tf base G) (Cf V n) :=
  ⟨hn, Tf_rises base G n hG, fun i h => by simp [Cf, h], fun i h => by have := Tf_bounds base G n hG i h; omega⟩

theorem TR_first (T : Nat → Int) (C : Nat → Bool) (j : Nat) : TR (CBf T C) 1 j = .int .i64 0 := by
  unfold TR
  by_cases h : j < 1
  · have : j = 0 := by omega
    subst this; simp [CBf]
  · rw [if_neg h]

theorem CBf_step (T : Nat → Int) (C : Nat → Bool) {k : Nat} (h : 1 ≤ k) : CBf T C k = CBf T C (k - 1) + if C (k - 1) = true then T k - T (k - 1) else 0 := by
  obtain ⟨m, rfl⟩ : ∃ m, k = m + 1 := ⟨k - 1, by omega⟩
  rfl

theorem rel_same {w ws : World} {g0 g1 g2 n k : Nat} {T : Nat → Int} {C : Nat → Bool} (L0 : g0 < g1) (L1 : g1 < g2) (RT : Row ws g0 n (fun j => .int .i64 (T j))) (RC : Row ws g1 n (fun j => .bool (C j))) (RB : Row ws g2 n (TR (CBf T C) k)) (B : Below g0 w ws)
    (z : Int) (hz : z = CBf T C k) :
    Row (ws.setCell ⟨g2, k, none⟩ (.int .i64 z)) g0 n (fun j => .int .i64 (T j)) ∧ Row (ws.setCell ⟨g2, k, none⟩ (.int .i64 z)) g1 n (fun j => .bool (C j)) ∧
    Row (ws.setCell ⟨g2, k, none⟩ (.int .i64 z)) g2 n (TR (CBf T C) (k + 1)) ∧ Below g0 w (ws.setCell ⟨g2, k, none⟩ (.int .i64 z)) := by
  subst hz
  exact ⟨RT.other (by omega) _, RC.other (by omega) _, (RB.set _).same (fun j _ => TR_step _ k j), B.setCell (by simp; omega) _⟩

theorem rel_twice {w ws : World} {g0 g1 g2 n k : Nat} {T : Nat → Int} {C : Nat → Bool} (L0 : g0 < g1) (L1 : g1 < g2) (RT : Row ws g0 n (fun j => .int .i64 (T j))) (RC : Row ws g1 n (fun j => .bool (C j))) (RB : Row ws g2 n (TR (CBf T C) k)) (B : Below g0 w ws)
    (u z : Int) (hz : z = CBf T C k) :
    Row ((ws.setCell ⟨g2, k, none⟩ (.int .i64 u)).setCell ⟨g2, k, none⟩ (.int .i64 z)) g0 n (fun j => .int .i64 (T j)) ∧ Row ((ws.setCell ⟨g2, k, none⟩ (.int .i64 u)).setCell ⟨g2, k, none⟩ (.int .i64 z)) g1 n (fun j => .bool (C j)) ∧
    Row ((ws.setCell ⟨g2, k, none⟩ (.int .i64 u)).setCell ⟨g2, k, none⟩ (.int .i64 z)) g2 n (TR (CBf T C) (k + 1)) ∧ Below g0 w ((ws.setCell ⟨g2, k, none⟩ (.int .i64 u)).setCell ⟨g2, k, none⟩ (.int .i64 z)) := by
  subst hz
  refine ⟨(RT.other (by omega) _).other (by omega) _, (RC.other (by omega) _).other (by omega) _, ((RB.set _).set _).same (fun j _ => ?_), (B.setCell (by simp; omega) _).setCell (by simp; omega) _⟩
  rw [← TR_step]
  by_cases e : j = k
  · rw [if_pos e, if_pos e]
  · rw [if_neg e, if_neg e, if_neg e]

theorem lies_of {ws : World} {g0 g1 g2 n : Nat} {T : Nat → Int} {C : Nat → Bool} (RT : Row ws g0 n (fun j => .int .i64 (T j))) (RC : Row ws g1 n (fun j => .bool (C j))) (RB : Row ws g2 n (fun j => .int .i64 (CBf T C j))) :
    Lies (ws.alloc (.cells #[.slice (some ⟨g0, 0, none⟩) n n, .slice (some ⟨g1, 0, none⟩) n n, .slice (some ⟨g2, 0, none⟩) n n, .slice none 0 0] 32)) ws.heap.size g0 g1 g2 n T C := by
  have hb := (Below.refl ws.heap.size ws).alloc (Nat.le_refl _) (.cells #[.slice (some ⟨g0, 0, none⟩) n n, .slice (some ⟨g1, 0, none⟩) n n, .slice (some ⟨g2, 0, none⟩) n n, .slice none 0 0] 32)
  have R0 := RT.below hb
  have R1 := RC.below hb
  have R2 := RB.below hb
  exact ⟨by simp, by simp, by simp, R0.cell, R1.cell, R2.cell, by simp, R0.lt, R1.lt, R2.lt⟩

set_option maxRecDepth 20000 in
set_option maxHeartbeats 1000000 in
theorem lawB_walk (base : Int) (b off n cap : Nat) (G : Nat → Int) (V : Nat → Bool) (t pick d : Int) (w : World) (hn : n ≤ 1024)
    (hb1 : -2147483648 ≤ base) (hb2 : base ≤ 2147483647) (t1 : -9223372036854775808 ≤ t) (t2 : t ≤ 9223372036854775807) (p1 : 0 ≤ pick) (p2 : pick ≤ 255) (d1 : -32768 ≤ d) (d2 : d ≤ 32767)
    (hG : ∀ i, i < n → 0 ≤ G i ∧ G i ≤ 65535) (hc0 : ∀ i, i < n → w.cell? ⟨b, off + i * 2, none⟩ = some (.int .u16 (G i))) (hc1 : ∀ i, i < n → w.cell? ⟨b, off + i * 2 + 1, none⟩ = some (.bool (V i))) (hbw : 0 < n → b < w.heap.size) :
    Calls Yba.prog 3 #[.int .i32 base, .slice (some ⟨b, off, none⟩) n cap, .int .i64 t, .int .u8 pick, .int .i16 d] w fun e w' => e = .returned (.bool true) ∧ Below w.heap.size w w' := by
  obtain ⟨i2, hi2, z20, z21, z22⟩ := info_parts Yba.info2
  obtain ⟨i4, hi4, z40, z41, z42⟩ := info_parts Yba.info4
  have hg1 : decide ((1024 : Int) < (n : Int)) = false := decide_eq_false (by omega)
  go_enter Yba.func3, Yba.ntmps3
  go_wp2_with (first | (at_make; refine wpList_make_full _ rfl (.tmp 24) (.tmp 24) 24 rfl w.heap.size 2 i2 (.int .i64 0) 1 Yba.underlying24 hi2 z20 z21 .i64 .i64 (n : Int) (n : Int) n (by rfl) (by rfl) rfl rfl (by rw [z22]; omega) (by unfold maxLen; omega) (Nat.le_refl _) ?_; intro w1 hown1 hgr1) | (at_make; refine wpList_make_full _ rfl (.tmp 26) (.tmp 26) 25 rfl w1.heap.size 4 i4 (.bool false) 1 Yba.underlying25 hi4 z40 z41 .i64 .i64 (n : Int) (n : Int) n (by rfl) (by rfl) rfl rfl (by rw [z42]; omega) (by unfold maxLen; omega) (Nat.le_refl _) ?_; intro w2 hown2 hgr2) | (at_make; refine wpList_make_full _ rfl (.tmp 28) (.tmp 28) 24 rfl w2.heap.size 2 i2 (.int .i64 0) 1 Yba.underlying24 hi2 z20 z21 .i64 .i64 (n : Int) (n : Int) n (by rfl) (by rfl) rfl rfl (by rw [z22]; omega) (by unfold maxLen; omega) (Nat.le_refl _) ?_; intro w3 hown3 hgr3))
  have B1 : Below w.heap.size w w1 := (Below.refl _ _).grown hgr1 (Nat.le_refl _) (by intro k hk; cases hk)
  have B2 : Below w1.heap.size w1 w2 := (Below.refl _ _).grown hgr2 (Nat.le_refl _) (by intro k hk; cases hk)
  have B3 : Below w2.heap.size w2 w3 := (Below.refl _ _).grown hgr3 (Nat.le_refl _) (by intro k hk; cases hk)
  have R0 := ((Row.make rfl hown1).below B2).below B3
  have R1 := (Row.make rfl hown2).below B3
  have R2 := Row.make rfl hown3
  have L0 : w.heap.size < w1.heap.size := (hown1.lt _ rfl).2
  have L1 : w1.heap.size < w2.heap.size := (hown2.lt _ rfl).2
  have B : Below w.heap.size w w3 := (B1.trans (B2.mono (by omega))).trans (B3.mono (by omega))
  clear hown1 hown2 hown3 hgr1 hgr2 hgr3 B1 B2 B3
  go_loopw [15] (fun i wr => ∃ k : Nat, k ≤ n ∧ i = .int .i64 k ∧ Row wr w.heap.size n (TR (Tf base G) k) ∧ Row wr w1.heap.size n (CR (Cf V n) k) ∧ Row wr w2.heap.size n (fun _ => .int .i64 0) ∧ Below w.heap.size w wr) (fun i _ => n - (intOf i).toNat)
  case atStart => exact ⟨0, Nat.zero_le _, rfl, R0.same (fun j _ => (TR_zero _ j).symm), R1.same (fun j _ => (CR_zero _ j).symm), R2, B⟩
  case round =>
    clear R0 R1 R2 B
    obtain ⟨k, hk, rfl, R0, R1, R2, B⟩ := hrel
    by_cases hlt : k < n
    · have ii : (k : Int) < (n : Int) := by omega
      have hbb := hbw (by omega)
      have s0 := (B.cell (p := ⟨b, off + k * 2, none⟩) hbb).trans (hc0 k hlt)
      have s1 := (B.cell (p := ⟨b, off + k * 2 + 1, none⟩) hbb).trans (hc1 k hlt)
      have r0 := R0.cell k hlt
      have r1 := R1.cell k hlt
      rw [TR_at] at r0
      rw [CR_at] at r1
      have f0 := R0.free k hlt
      have f1 := R1.free k hlt
      rcases Nat.eq_zero_or_pos k with h0 | h0
      · subst h0
        cases hV : V 0
        · have R := rel_step L0 L1 R0 R1 R2 B base false rfl (Cf_no hV)
          rw [hV] at s1
          clear hc0 hc1 R0 R1 R2 B
          go_wp2
          go_roundw
          case rel => exact ⟨1, by omega, rfl, R.1, R.2.1, R.2.2.1, R.2.2.2⟩
          case measure => simp [intOf]; omega
        · have R := rel_step L0 L1 R0 R1 R2 B base (decide ((1 : Int) < (n : Int))) rfl (Cf_zero hV)
          rw [hV] at s1
          clear hc0 hc1 R0 R1 R2 B
          go_wp2
          go_roundw
          case rel => exact ⟨1, by omega, rfl, R.1, R.2.1, R.2.2.1, R.2.2.2⟩
          case measure => simp [intOf]; omega
      · have q0 := R0.cell (k - 1) (by omega)
        rw [TR_lt _ (by omega)] at q0
        have tb := Tf_bounds base G n hG (k - 1) (by omega)
        have gb := hG k hlt
        obtain ⟨x, hx⟩ : ∃ x, x = Tf base G (k - 1) := ⟨_, rfl⟩
        obtain ⟨y, hy⟩ : ∃ y, y = G k := ⟨_, rfl⟩
        have ex : x + y + 1 = Tf base G k := by
          obtain ⟨m, rfl⟩ : ∃ m, k = m + 1 := ⟨k - 1, by omega⟩
          rw [hx, hy]; rfl
        rw [← hx] at q0 tb
        rw [← hy] at s0 gb
        have v1 : -8589934592 ≤ x := by omega
        have v2 : x ≤ 8589934592 := by omega
        have v3 : 0 ≤ y := gb.1
        have v4 : y ≤ 65535 := gb.2
        have j0 : (0 : Int) ≤ (k : Int) - 1 := by omega
        have j1 : (k : Int) - 1 < (n : Int) := by omega
        have j2 : (0 : Int) ≤ (k : Int) := by omega
        have jw : IntKind.i64.wrap ((k : Int) - 1) = (k : Int) - 1 := wrapI (by omega) (by omega)
        have j3 : (1 : Int) ≤ (k : Int) := by omega
        have j4 : (k : Int) ≤ (n : Int) := by omega
        have j5 : 1 ≤ k := by omega
        have jx : IntKind.i64.wrap (x + y) = x + y := wrapI (by omega) (by omega)
        have jy : IntKind.i64.wrap (x + y + 1) = x + y + 1 := wrapI (by omega) (by omega)
        have jz : ((k : Int) == 0) = false := by simp; omega
        have jt : ((k : Int) - 1).toNat = k - 1 := by omega
        cases hV : V k
        · have R := rel_step L0 L1 R0 R1 R2 B (x + y + 1) false ex (Cf_no hV)
          rw [hV] at s1
          clear hc0 hc1 R0 R1 R2 B hx hy ex tb gb h0
          go_wp2
          go_region_held3 (fun w' => w'.cell? ⟨w.heap.size, k - 1, none⟩ = some (.int .i64 x) ∧ w'.cell? ⟨b, off + k * 2, none⟩ = some (.int .u16 y)) (first | exact ⟨q0, s0⟩ | exact ⟨(cell_set_off (by omega)).trans q0, (cell_set_far (by omega)).trans s0⟩ | fail) (fail)
          go_wp2
          go_roundw
          case rel => exact ⟨k + 1, by omega, by go_num, R.1.drew, R.2.1.drew, R.2.2.1.drew, R.2.2.2.drew⟩
          case measure => simp [intOf]; omega
        · have R := rel_step L0 L1 R0 R1 R2 B (x + y + 1) (decide ((k : Int) < (n : Int) - 1)) ex (Cf_yes hV)
          rw [hV] at s1
          clear hc0 hc1 R0 R1 R2 B hx hy ex tb gb h0
          go_wp2
          go_region_held3 (fun w' => w'.cell? ⟨w.heap.size, k - 1, none⟩ = some (.int .i64 x) ∧ w'.cell? ⟨b, off + k * 2, none⟩ = some (.int .u16 y)) (first | exact ⟨q0, s0⟩ | exact ⟨(cell_set_off (by omega)).trans q0, (cell_set_far (by omega)).trans s0⟩ | fail) (fail)
          go_wp2
          go_roundw
          case rel => exact ⟨k + 1, by omega, by go_num, R.1.drew, R.2.1.drew, R.2.2.1.drew, R.2.2.2.drew⟩
          case measure => simp [intOf]; omega
    · have e : n = k := by omega
      subst e
      obtain ⟨T, hT⟩ : ∃ T, T = Tf base G := ⟨_, rfl⟩
      obtain ⟨C, hC⟩ : ∃ C, C = Cf V n := ⟨_, rfl⟩
      have hF : Fine n T C := by
        rw [hT, hC]
        exact fine_of hn hb1 hb2 hG
      have RT : Row wr w.heap.size n (fun j => .int .i64 (T j)) := by rw [hT]; exact R0.same (fun j hj => TR_lt _ hj)
      have RC : Row wr w1.heap.size n (fun j => .bool (C j)) := by rw [hC]; exact R1.same (fun j hj => CR_lt _ hj)
      have RB : Row wr w2.heap.size n (TR (CBf T C) 1) := R2.same (fun j _ => (TR_first T C j).symm)
      clear hT hC hc0 hc1 hG R0 R1 R2 hlt hk hb1 hb2
      go_wp2
      go_loopw [16] (fun i ws => ∃ k : Nat, 1 ≤ k ∧ (k ≤ n ∨ k = 1) ∧ i = .int .i64 k ∧ Row ws w.heap.size n (fun j => .int .i64 (T j)) ∧ Row ws w1.heap.size n (fun j => .bool (C j)) ∧ Row ws w2.heap.size n (TR (CBf T C) k) ∧ Below w.heap.size w ws) (fun i _ => n - (intOf i).toNat)
      case atStart => exact ⟨1, Nat.le_refl _, .inr rfl, rfl, RT, RC, RB, B⟩
      case round =>
        clear RT RC RB B
        obtain ⟨k, hk1, hk2, rfl, RT, RC, RB, B⟩ := hrel
        by_cases hlt : k < n
        · have j0 : (0 : Int) ≤ (k : Int) - 1 := by omega
          have j1 : (k : Int) - 1 < (n : Int) := by omega
          have j2 : (0 : Int) ≤ (k : Int) := by omega
          have j3 : (1 : Int) ≤ (k : Int) := by omega
          have j4 : (k : Int) ≤ (n : Int) := by omega
          have j6 : (k : Int) < (n : Int) := by omega
          have jw : IntKind.i64.wrap ((k : Int) - 1) = (k : Int) - 1 := wrapI (by omega) (by omega)
          have jt : ((k : Int) - 1).toNat = k - 1 := by omega
          have c1 := RT.cell (k - 1) (by omega)
          have c2 := RT.cell k hlt
          have c3 := RC.cell (k - 1) (by omega)
          have c4 := RB.cell (k - 1) (by omega)
          have c5 := RB.cell k hlt
          have f5 := RB.free k hlt
          rw [TR_lt _ (by omega)] at c4
          rw [TR_at] at c5
          have hup := hF.up (k - 1) (by omega)
          have e1 : k - 1 + 1 = k := by omega
          rw [e1] at hup
          have b1 := hF.bd k hlt
          have b2 := hF.bd (k - 1) (by omega)
          have b3 := hF.bd 0 (by omega)
          have b4 := CBf_bounds (C := C) hF.up (k - 1) (by omega)
          have es := CBf_step T C hk1
          obtain ⟨x, hx⟩ : ∃ x, x = T (k - 1) := ⟨_, rfl⟩
          obtain ⟨y, hy⟩ : ∃ y, y = T k := ⟨_, rfl⟩
          obtain ⟨z, hz⟩ : ∃ z, z = CBf T C (k - 1) := ⟨_, rfl⟩
          rw [← hx] at c1 hup b2 b4 es
          rw [← hy] at c2 hup b1 es
          rw [← hz] at c4 b4 es
          have v1 : -8589934592 ≤ x := b2.1
          have v2 : x ≤ 8589934592 := b2.2
          have v3 : -8589934592 ≤ y := b1.1
          have v4 : y ≤ 8589934592 := b1.2
          have v5 : 0 ≤ z := b4.1
          have v6 : z ≤ 17179869184 := by omega
          cases hc : C (k - 1)
          · rw [hc] at c3 es
            have R := rel_same L0 L1 RT RC RB B z (by rw [es]; simp)
            clear RT RC RB B hx hy hz es b1 b2 b3 b4 hup e1
            go_wp2
            go_roundw
            case rel => exact ⟨k + 1, by omega, .inl (by omega), by go_num, R.1, R.2.1, R.2.2.1, R.2.2.2⟩
            case measure => simp [intOf]; omega
          · rw [hc] at c3 es
            have R := rel_twice L0 L1 RT RC RB B z (z + (y - x)) (by rw [es]; simp)
            have jx : IntKind.i64.wrap (y - x) = y - x := wrapI (by omega) (by omega)
            have jy : IntKind.i64.wrap (z + (y - x)) = z + (y - x) := wrapI (by omega) (by omega)
            have k1 : (wr.setCell ⟨w2.heap.size, k, none⟩ (.int .i64 z)).cell? ⟨w2.heap.size, k, none⟩ = some (.int .i64 z) := World.cell?_setCell_same _ _ _ c5
            have k2 : (wr.setCell ⟨w2.heap.size, k, none⟩ (.int .i64 z)).cell? ⟨w.heap.size, k, none⟩ = some (.int .i64 y) := (cell_set_far (by omega)).trans c2
            have k3 : (wr.setCell ⟨w2.heap.size, k, none⟩ (.int .i64 z)).cell? ⟨w.heap.size, k - 1, none⟩ = some (.int .i64 x) := (cell_set_far (by omega)).trans c1
            have k4 : (wr.setCell ⟨w2.heap.size, k, none⟩ (.int .i64 z)).frozen? ⟨w2.heap.size, k, none⟩ = false := by rw [World.frozen?_setCell]; exact f5
            clear RT RC RB B hx hy hz es b1 b2 b3 b4 hup e1
            go_wp2
            clear c1 c2 c3 c4 c5 f5
            generalize wr.setCell ⟨w2.heap.size, k, none⟩ (.int .i64 z) = W at *
            go_region
            go_wp2
            go_roundw
            case rel => exact ⟨k + 1, by omega, .inl (by omega), by go_num, R.1.drew, R.2.1.drew, R.2.2.1.drew, R.2.2.2.drew⟩
            case measure => simp [intOf]; omega
        · have RB2 : Row wr w2.heap.size n (fun j => .int .i64 (CBf T C j)) := RB.same (fun j hj => TR_lt _ (by omega))
          obtain ⟨g0, hg0⟩ : ∃ g, g = w.heap.size := ⟨_, rfl⟩
          have hL : Lies (wr.alloc (.cells #[.slice (some ⟨w.heap.size, 0, none⟩) n n, .slice (some ⟨w1.heap.size, 0, none⟩) n n, .slice (some ⟨w2.heap.size, 0, none⟩) n n, .slice none 0 0] 32)) wr.heap.size w.heap.size w1.heap.size w2.heap.size n T C := lies_of RT RC RB2
          have hB : Below w.heap.size w (wr.alloc (.cells #[.slice (some ⟨w.heap.size, 0, none⟩) n n, .slice (some ⟨w1.heap.size, 0, none⟩) n n, .slice (some ⟨w2.heap.size, 0, none⟩) n n, .slice none 0 0] 32)) := B.alloc B.size _
          clear RT RC RB RB2 B hg0 g0
          go_wp2_with fail
          refine (covered_any wr.heap.size w.heap.size w1.heap.size w2.heap.size n t T C _ hL hF t1 t2).mono ?_
          rintro e w4 ⟨rfl, hb4⟩
          have hL4 := hL.later hb4
          have hB4 : Below w.heap.size w w4 := hB.trans (hb4.mono hB.size)
          clear hb4 hB hL
          generalize wr.heap.size = p at *
          rcases Nat.eq_zero_or_pos n with hz | hpos
          · have a0 : (n : Int) = 0 := by omega
            subst hz
            go_wp2_with (go_at_call 7; refine (model_any w.heap.size w1.heap.size 0 t T C _ hL4.t hL4.c hF t1 t2).mono ?_; rintro e w5 ⟨rfl, kq, rfl⟩)
            go_ret
            exact ⟨rfl, below_drewN hB4 _⟩
          · have a0 : (0 : Int) < (n : Int) := by omega
            have a1 : (0 : Int) ≤ pick % (n : Int) := Int.emod_nonneg _ (by omega)
            have a2 : pick % (n : Int) < (n : Int) := Int.emod_lt_of_pos _ (by omega)
            have hm : (pick % (n : Int)).toNat < n := by omega
            have a3 := hL4.t (pick % (n : Int)).toNat hm
            have a4 := hF.bd (pick % (n : Int)).toNat hm
            obtain ⟨x, hx⟩ : ∃ x, x = T (pick % (n : Int)).toNat := ⟨_, rfl⟩
            rw [← hx] at a3 a4
            have v1 : -8589934592 ≤ x := a4.1
            have v2 : x ≤ 8589934592 := a4.2
            clear hx a4
            go_wp2_with (go_at_call 7; refine (model_any w.heap.size w1.heap.size n t T C _ hL4.t hL4.c hF t1 t2).mono ?_; rintro e w5 ⟨rfl, kq, rfl⟩)
            have hL5 : Lies (w4.drewN kq) p w.heap.size w1.heap.size w2.heap.size n T C := hL4.later (below_drewN (Below.refl _ _) _)
            refine (covered_any p w.heap.size w1.heap.size w2.heap.size n (x + d) T C _ hL5 hF (by omega) (by omega)).mono ?_
            rintro e w6 ⟨rfl, hb6⟩
            have hL6 := hL5.later hb6
            have hB6 : Below w.heap.size w w6 := (below_drewN hB4 kq).trans (hb6.mono hB4.size)
            clear hL4 hL5 hB4 hb6
            go_wp2_with (go_at_call 7; refine (model_any w.heap.size w1.heap.size n (x + d) T C _ hL6.t hL6.c hF (by omega) (by omega)).mono ?_; rintro e w7 ⟨rfl, kr, rfl⟩)
            go_ret
            exact ⟨rfl, below_drewN hB6 _⟩

set_option maxRecDepth 20000 in
set_option maxHeartbeats 1000000 in
theorem lawB_big (base : Int) (a0 : Option Addr) (n cap : Nat) (t pick d : Int) (w : World) (hn : 1024 < n) :
    Calls Yba.prog 3 #[.int .i32 base, .slice a0 n cap, .int .i64 t, .int .u8 pick, .int .i16 d] w fun e w' => e = .returned (.bool true) ∧ Below w.heap.size w w' := by
  have hg1 : (1024 : Int) < (n : Int) := by omega
  go_enter Yba.func3, Yba.ntmps3
  go_wp2
  go_ret
  exact ⟨rfl, Below.refl _ _⟩
end Go.Proofs.Ybulkcbyy
