/- LawS3920BModel (3). -/
import Derived.Test.YbulkccduWalk2
namespace Go.Proofs.Ybulkccdu
open Go.RowKit
set_option linter.unusedVariables false

theorem min_at (x y z n : Nat) (w : World) (hn : Hid (n = min (min x y) z)) : Calls Yba.prog 7 #[.int .i64 x, .int .i64 y, .int .i64 z] w fun e w' => e = .returned (.int .i64 n) ∧ w = w' := by
  rw [hn.out]; exact (min_any x y z w).mono (fun e w' h => ⟨h.1, h.2.symm⟩)

set_option maxRecDepth 4000 in
set_option maxHeartbeats 1000000 in
theorem model_walk (od oa ob : Option Addr) (ld la lb cd ca cb : Nat) (Df A Bf : Nat → Int) (w : World) (hd : ld ≤ 1024) (ha : la ≤ 1024) (hb : lb ≤ 1024) (rd : Arg w od ld cd Df) (ra : Arg w oa la ca A) (rb : Arg w ob lb cb Bf) :
    Calls Yba.prog 3 #[.slice od ld cd, .slice oa la ca, .slice ob lb cb] w fun e w' => e = .returned (.bool true) ∧ Below w.heap.size w w' := by
  have hg0 : decide ((1024 : Int) < (ld : Int)) = false := decide_eq_false (by omega)
  have hg1 : decide ((1024 : Int) < (la : Int)) = false := decide_eq_false (by omega)
  have hg2 : decide ((1024 : Int) < (lb : Int)) = false := decide_eq_false (by omega)
  obtain ⟨b0, o0, td, c0, l0⟩ := rd.spot
  obtain ⟨b1, o1, ta, c1, l1⟩ := ra.spot
  obtain ⟨b2, o2, tb, c2, l2⟩ := rb.spot
  have HRD : Hid (Arg w od ld cd Df) := rd
  have HRA : Hid (Arg w oa la ca A) := ra
  have HRB : Hid (Arg w ob lb cb Bf) := rb
  have TDa : Hid (At od b0 o0 ld) := td
  have TA : Hid (At oa b1 o1 la) := ta
  have TB : Hid (At ob b2 o2 lb) := tb
  have HC0 : Hid (∀ j, j < ld → w.cell? ⟨b0, o0 + j, none⟩ = some (.int .u64 (Df j))) := c0
  have HC1 : Hid (∀ j, j < la → w.cell? ⟨b1, o1 + j, none⟩ = some (.int .u64 (A j))) := c1
  have HC2 : Hid (∀ j, j < lb → w.cell? ⟨b2, o2 + j, none⟩ = some (.int .u64 (Bf j))) := c2
  clear rd ra rb td ta tb c0 c1 c2
  go_enter Yba.func3, Yba.ntmps3
  go_wp2_with fail
  refine (copy_any od ld cd Df w hd HRD.out).mono ?_
  rintro e w1 ⟨⟨xd, gd, rfl, sd, rd, gd1, gd2⟩, hb1⟩
  go_wp2_with fail
  refine (copy_any oa la ca A w1 ha (HRA.out.later hb1)).mono ?_
  rintro e w2 ⟨⟨ox, gx, rfl, tx, rx, gx1, gx2⟩, hb2⟩
  go_wp2_with fail
  have hb12 : Below w.heap.size w w2 := hb1.trans (hb2.mono hb1.size)
  refine (copy_any ob lb cb Bf w2 hb (HRB.out.later hb12)).mono ?_
  rintro e w3 ⟨⟨oy, gy, rfl, ty, ry, gy1, gy2⟩, hb3⟩
  go_wp2_with fail
  have hb13 : Below w.heap.size w w3 := hb12.trans (hb3.mono hb12.size)
  have s1 := hb1.size
  have s2 := hb2.size
  have s3 := hb3.size
  have rd3 := (rd.below hb2 gd2).below hb3 (fun h => Nat.lt_of_lt_of_le (gd2 h) s2)
  have rx3 := rx.below hb3 gx2
  obtain ⟨hx, sd', rd', hx1, hx2, hx3⟩ := replace_at (w2 := w3) sd rd3 gd1 (fun h => by have := gd2 h; omega) (by omega)
  obtain ⟨n, hn⟩ : ∃ n, n = min (min ld la) lb := ⟨_, rfl⟩
  have hne1 : 0 < la → gx ≠ hx := by
    intro h
    have := gx2 h
    by_cases e : ld = 0
    · have := hx2 e; omega
    · have := hx3 (by omega); have := gd2 (by omega); omega
  have hne2 : 0 < lb → gy ≠ hx := by
    intro h
    have := gy2 h
    by_cases e : ld = 0
    · have := hx2 e; omega
    · have := hx3 (by omega); have := gd2 (by omega); omega
  have hna : gx ≠ hx ∨ ∀ k, k < n → Value.int .u64 (Df k) = .int .u64 (A k) := by
    by_cases e : 0 < la
    · exact .inl (hne1 e)
    · exact .inr fun k hk => by omega
  refine (or_any xd ox oy ld la lb ld la lb hx gx gy n (fun j => .int .u64 (Df j)) A Bf w3 hd ha hb (Nat.le_refl _) (Nat.le_refl _) (Nat.le_refl _) hn (fun k l c W h => sd' k l c W (by omega)) (fun k l c W h => tx k l c W (by omega)) (fun k l c W h => ty k l c W (by omega)) rd' (fun k hk => rx3.cell k (by omega)) (fun k hk => ry.cell k (by omega)) (fun h => hne2 (by omega)) hna).mono ?_
  rintro e w4 ⟨rfl, ho, rd4⟩
  have HB4 : Hid (Below w.heap.size w w4) := Only.below hb13 ho hx1
  have HD4 : Hid (Row w4 hx ld (mix A Bf (fun j => .int .u64 (Df j)) n)) := rd4
  have HX4 : Hid (∀ k, k < la → w4.cell? ⟨gx, k, none⟩ = some (.int .u64 (A k))) := fun k hk => (ho.cell (hne1 (by omega))).trans (rx3.cell k hk)
  have HY4 : Hid (∀ k, k < lb → w4.cell? ⟨gy, k, none⟩ = some (.int .u64 (Bf k))) := fun k hk => (ho.cell (hne2 (by omega))).trans (ry.cell k hk)
  have HDd : Hid (∀ k, k < ld → w4.cell? ⟨b0, o0 + k, none⟩ = some (.int .u64 (Df k))) := fun k hk => (HB4.out.cell (p := ⟨b0, o0 + k, none⟩) (l0 (by omega))).trans (HC0.out k hk)
  have HAa : Hid (∀ k, k < la → w4.cell? ⟨b1, o1 + k, none⟩ = some (.int .u64 (A k))) := fun k hk => (HB4.out.cell (p := ⟨b1, o1 + k, none⟩) (l1 (by omega))).trans (HC1.out k hk)
  have HBb : Hid (∀ k, k < lb → w4.cell? ⟨b2, o2 + k, none⟩ = some (.int .u64 (Bf k))) := fun k hk => (HB4.out.cell (p := ⟨b2, o2 + k, none⟩) (l2 (by omega))).trans (HC2.out k hk)
  have TD : Hid (At xd hx 0 ld) := sd'
  have TX : Hid (At ox gx 0 la) := tx
  have TY : Hid (At oy gy 0 lb) := ty
  have n1 : n ≤ la := by omega
  have n2 : n ≤ lb := by omega
  have HN : Hid (n = min (min ld la) lb) := hn
  clear ho rd4 rd rd3 rd' rx rx3 ry sd sd' tx ty hx1 hx2 hx3 gd1 gd2 gx1 gx2 gy1 gy2 hne1 hne2 hna hb1 hb2 hb3 hb12 hb13 s1 s2 s3 HRD HRA HRB HC0 HC1 HC2 l0 l1 l2 hn
  go_wp2_with (go_at_call 7; refine (min_at ld la lb n _ HN).mono ?_; rintro e w' ⟨rfl, rfl⟩)
  go_loopw [11] (fun i wr => ∃ k : Nat, k ≤ ld ∧ i = .int .i64 k ∧ ∃ q, wr = w4.drewN q) (fun i _ => ld - (intOf i).toNat)
  case atStart => exact ⟨0, Nat.zero_le _, rfl, 0, rfl⟩
  case round =>
    obtain ⟨k, hk, rfl, q, rfl⟩ := hrel
    by_cases hlt : k < ld
    · have i1 : (k : Int) < (ld : Int) := by omega
      have i0 : (0 : Int) ≤ (k : Int) := by omega
      have xx := at_k0 TD.out ld hlt hlt
      have d3 := HD4.out.cell k hlt
      by_cases hkn : k < n
      · have i2 : (k : Int) < (n : Int) := by omega
        have i3 : (k : Int) < (lb : Int) := by omega
        have i4 : (k : Int) < (la : Int) := by omega
        have xa := at_k TA.out ca (show k < la by omega) (show k < la by omega)
        have xb := at_k TB.out cb (show k < lb by omega) (show k < lb by omega)
        have d1 := HAa.out k (by omega)
        have d2 := HBb.out k (by omega)
        rw [mix_lt _ _ _ hkn] at d3
        go_wp2
        go_quiet (fail)
        go_wp2
        go_roundw
        case rel => exact ⟨k + 1, by omega, by go_num, _, rfl⟩
        case measure => simp [intOf]; omega
      · have i2 : ¬ (k : Int) < (n : Int) := by omega
        have xd1 := at_k TDa.out cd hlt hlt
        have d1 := HDd.out k hlt
        rw [mix_ge _ _ _ hkn] at d3
        go_wp2
        go_quiet (fail)
        go_wp2
        go_roundw
        case rel => exact ⟨k + 1, by omega, by go_num, _, rfl⟩
        case measure => simp [intOf]; omega
    · have hle : ¬ (k : Int) < (ld : Int) := by omega
      go_wp2
      go_loopw [12] (fun i ws => ∃ k : Nat, k ≤ la ∧ i = .int .i64 k ∧ ∃ q, ws = w4.drewN q) (fun i _ => la - (intOf i).toNat)
      case atStart => exact ⟨0, Nat.zero_le _, rfl, _, rfl⟩
      case round =>
        obtain ⟨m, hm, rfl, q2, rfl⟩ := hrel
        by_cases hml : m < la
        · have j1 : (m : Int) < (la : Int) := by omega
          have j0 : (0 : Int) ≤ (m : Int) := by omega
          have x1 := at_k TA.out ca hml hml
          have x2 := at_k0 TX.out la hml hml
          have d1 := HAa.out m hml
          have d2 := HX4.out m hml
          go_wp2
          go_quiet (fail)
          go_wp2
          go_roundw
          case rel => exact ⟨m + 1, by omega, by go_num, _, rfl⟩
          case measure => simp [intOf]; omega
        · have hle2 : ¬ (m : Int) < (la : Int) := by omega
          go_wp2
          go_loopw [13] (fun i ws => ∃ k : Nat, k ≤ lb ∧ i = .int .i64 k ∧ ∃ q, ws = w4.drewN q) (fun i _ => lb - (intOf i).toNat)
          case atStart => exact ⟨0, Nat.zero_le _, rfl, _, rfl⟩
          case round =>
            obtain ⟨m, hm, rfl, q2, rfl⟩ := hrel
            by_cases hml : m < lb
            · have j1 : (m : Int) < (lb : Int) := by omega
              have j0 : (0 : Int) ≤ (m : Int) := by omega
              have x1 := at_k TB.out cb hml hml
              have x2 := at_k0 TY.out lb hml hml
              have d1 := HBb.out m hml
              have d2 := HY4.out m hml
              go_wp2
              go_quiet (fail)
              go_wp2
              go_roundw
              case rel => exact ⟨m + 1, by omega, by go_num, _, rfl⟩
              case measure => simp [intOf]; omega
            · have hle2 : ¬ (m : Int) < (lb : Int) := by omega
              go_wp2
              go_ret
              exact ⟨rfl, below_drewN HB4.out _⟩

set_option maxHeartbeats 400000 in
theorem model_big (od oa ob : Option Addr) (ld la lb cd ca cb : Nat) (w : World) (h : 1024 < ld ∨ 1024 < la ∨ 1024 < lb) :
    Calls Yba.prog 3 #[.slice od ld cd, .slice oa la ca, .slice ob lb cb] w fun e w' => e = .returned (.bool true) ∧ Below w.heap.size w w' := by
  by_cases h0 : 1024 < ld
  · have hg1 : (1024 : Int) < (ld : Int) := by omega
    clear h
    go_enter Yba.func3, Yba.ntmps3
    go_wp2
    go_ret
    exact ⟨rfl, Below.refl _ _⟩
  · have hg0 : decide ((1024 : Int) < (ld : Int)) = false := decide_eq_false (by omega)
    by_cases h1 : 1024 < la
    · have hg1 : (1024 : Int) < (la : Int) := by omega
      clear h
      go_enter Yba.func3, Yba.ntmps3
      go_wp2
      go_ret
      exact ⟨rfl, Below.refl _ _⟩
    · have h2 : 1024 < lb := by omega
      clear h
      have hg1 : decide ((1024 : Int) < (la : Int)) = false := decide_eq_false (by omega)
      have hg2 : (1024 : Int) < (lb : Int) := by omega
      go_enter Yba.func3, Yba.ntmps3
      go_wp2
      go_ret
      exact ⟨rfl, Below.refl _ _⟩
end Go.Proofs.Ybulkccdu
