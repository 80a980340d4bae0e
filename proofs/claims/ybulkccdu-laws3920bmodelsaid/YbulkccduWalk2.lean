/- LawS3920BInPlace (4). -/
import Derived.Test.YbulkccduWalk1
namespace Go.Proofs.Ybulkccdu
open Go.RowKit
set_option linter.unusedVariables false

theorem Arg.later {w w' : World} {ao : Option Addr} {len cap : Nat} {f : Nat → Int} (h : Arg w ao len cap f) (hb : Below w.heap.size w w') : Arg w' ao len cap f := by
  rcases h with h | ⟨x, rfl, hx⟩
  · exact .inl h
  · exact .inr ⟨x, rfl, fun j hj => by rw [hb.cell (block_lt_of_cell (hx j hj))]; exact hx j hj⟩

theorem at_k {ao : Option Addr} {g off N : Nat} (h : At ao g off N) {k l : Nat} (c : Nat) (h1 : k < N) (h2 : k < l) : ∀ W, (Instr.indexAt 22 (.slice ao l c) (.int .i64 (k : Int))).run Yba.prog W = .ok (.pointer (some ⟨g, off + k, none⟩)) W :=
  fun W => h k l c W h1 h2
theorem at_k0 {ao : Option Addr} {g N : Nat} (h : At ao g 0 N) {k l : Nat} (c : Nat) (h1 : k < N) (h2 : k < l) : ∀ W, (Instr.indexAt 22 (.slice ao l c) (.int .i64 (k : Int))).run Yba.prog W = .ok (.pointer (some ⟨g, k, none⟩)) W :=
  fun W => by have := h k l c W h1 h2; rwa [Nat.zero_add] at this

/-- where a copy lies: any place will do where it is empty -/
theorem replace_at {w2 : World} {o : Option Addr} {g len lo : Nat} {f : Nat → Value} (t : At o g 0 len) (r : Row w2 g len f) (h1 : lo ≤ g) (h2 : 0 < len → g < w2.heap.size) (hlo : lo ≤ w2.heap.size) :
    ∃ g', At o g' 0 len ∧ Row w2 g' len f ∧ lo ≤ g' ∧ (len = 0 → g' = w2.heap.size) ∧ (0 < len → g' = g) := by
  by_cases h : len = 0
  · subst h
    exact ⟨w2.heap.size, at_none _ _ _, ⟨fun j h => by omega, fun j h => by omega⟩, hlo, fun _ => rfl, fun h => by omega⟩
  · exact ⟨g, t, r, h1, fun h' => absurd h' h, fun _ => rfl⟩

theorem mix_lt (A B : Nat → Int) (D : Nat → Value) {k j : Nat} (h : j < k) : mix A B D k j = .int .u64 (bits .or .u64 (A j) (B j)) := by simp [mix, h]
theorem mix_ge (A B : Nat → Int) (D : Nat → Value) {k j : Nat} (h : ¬ j < k) : mix A B D k j = D j := by simp [mix, h]

set_option maxRecDepth 4000 in
set_option maxHeartbeats 1000000 in
theorem inplace_walk (oa ob : Option Addr) (la lb ca cb : Nat) (A Bf : Nat → Int) (w : World) (ha : la ≤ 1024) (hb : lb ≤ 1024) (ra : Arg w oa la ca A) (rb : Arg w ob lb cb Bf) :
    Calls Yba.prog 4 #[.slice oa la ca, .slice ob lb cb] w fun e w' => e = .returned (.bool true) ∧ Below w.heap.size w w' := by
  have hg1 : decide ((1024 : Int) < (la : Int)) = false := decide_eq_false (by omega)
  have hg2 : decide ((1024 : Int) < (lb : Int)) = false := decide_eq_false (by omega)
  obtain ⟨b1, o1, ta, c1, l1⟩ := ra.spot
  obtain ⟨b2, o2, tb, c2, l2⟩ := rb.spot
  have HRA : Hid (Arg w oa la ca A) := ra
  have HRB : Hid (Arg w ob lb cb Bf) := rb
  have TA : Hid (At oa b1 o1 la) := ta
  have TB : Hid (At ob b2 o2 lb) := tb
  have HC1 : Hid (∀ j, j < la → w.cell? ⟨b1, o1 + j, none⟩ = some (.int .u64 (A j))) := c1
  have HC2 : Hid (∀ j, j < lb → w.cell? ⟨b2, o2 + j, none⟩ = some (.int .u64 (Bf j))) := c2
  clear ra rb ta tb c1 c2
  go_enter Yba.func4, Yba.ntmps4
  go_wp2_with fail
  refine (copy_any oa la ca A w ha HRA.out).mono ?_
  rintro e w1 ⟨⟨ox, gx, rfl, tx, rx, gx1, gx2⟩, hb1⟩
  go_wp2_with fail
  refine (copy_any ob lb cb Bf w1 hb (HRB.out.later hb1)).mono ?_
  rintro e w2 ⟨⟨oy, gy, rfl, ty, ry, gy1, gy2⟩, hb2⟩
  go_wp2_with fail
  obtain ⟨hx, tx', rx', hx1, hx2, hx3⟩ := replace_at (w2 := w2) tx (rx.below hb2 gx2) gx1 (fun h => Nat.lt_of_lt_of_le (gx2 h) hb2.size) (Nat.le_trans hb1.size hb2.size)
  obtain ⟨n, hn⟩ : ∃ n, n = min (min la la) lb := ⟨_, rfl⟩
  have hne : 0 < lb → gy ≠ hx := by
    intro h
    have := gy2 h
    by_cases e : la = 0
    · have := hx2 e; omega
    · have := hx3 (by omega); have := gx2 (by omega); omega
  refine (or_any ox ox oy la la lb la la lb hx hx gy n (fun j => .int .u64 (A j)) A Bf w2 ha ha hb (Nat.le_refl _) (Nat.le_refl _) (Nat.le_refl _) hn (fun k l c W h => tx' k l c W (by omega)) (fun k l c W h => tx' k l c W (by omega)) (fun k l c W h => ty k l c W (by omega)) rx' (fun k hk => rx'.cell k (by omega)) (fun k hk => ry.cell k (by omega)) (fun h => hne (by omega)) (.inr fun k _ => rfl)).mono ?_
  rintro e w3 ⟨rfl, ho, rx3⟩
  have HB3 : Hid (Below w.heap.size w w3) := Only.below (hb1.trans (hb2.mono hb1.size)) ho hx1
  have HX : Hid (Row w3 hx la (mix A Bf (fun j => .int .u64 (A j)) n)) := rx3
  have HY3 : Hid (∀ k, k < lb → w3.cell? ⟨gy, k, none⟩ = some (.int .u64 (Bf k))) := fun k hk => (ho.cell (hne (by omega))).trans (ry.cell k hk)
  have HA3 : Hid (∀ k, k < la → w3.cell? ⟨b1, o1 + k, none⟩ = some (.int .u64 (A k))) := fun k hk => (HB3.out.cell (p := ⟨b1, o1 + k, none⟩) (l1 (by omega))).trans (HC1.out k hk)
  have HB3b : Hid (∀ k, k < lb → w3.cell? ⟨b2, o2 + k, none⟩ = some (.int .u64 (Bf k))) := fun k hk => (HB3.out.cell (p := ⟨b2, o2 + k, none⟩) (l2 (by omega))).trans (HC2.out k hk)
  have TX : Hid (At ox hx 0 la) := tx'
  have TY : Hid (At oy gy 0 lb) := ty
  have n1 : n ≤ la := by omega
  have n2 : n ≤ lb := by omega
  clear ho rx3 rx rx' ry tx tx' ty hx1 hx2 hx3 gx1 gx2 gy1 gy2 hne hb1 hb2 HRA HRB HC1 HC2 l1 l2
  by_cases hl : lb < la
  · obtain rfl : lb = n := by omega
    clear hn
    go_wp2
    go_loopw [9] (fun i wr => ∃ k : Nat, k ≤ la ∧ i = .int .i64 k ∧ ∃ q, wr = w3.drewN q) (fun i _ => la - (intOf i).toNat)
    case atStart => exact ⟨0, Nat.zero_le _, rfl, 0, rfl⟩
    case round =>
      obtain ⟨k, hk, rfl, q, rfl⟩ := hrel
      by_cases hlt : k < la
      · have i1 : (k : Int) < (la : Int) := by omega
        have i0 : (0 : Int) ≤ (k : Int) := by omega
        have xa := at_k TA.out ca hlt hlt
        have xx := at_k0 TX.out la hlt hlt
        have d1 := HA3.out k hlt
        have d3 := HX.out.cell k hlt
        by_cases hkn : k < lb
        · have i2 : (k : Int) < (lb : Int) := by omega
          have i3 : (k : Int) < (lb : Int) := by omega
          have xb := at_k TB.out cb (show k < lb by omega) (show k < lb by omega)
          have d2 := HB3b.out k (by omega)
          rw [mix_lt _ _ _ hkn] at d3
          go_wp2
          go_quiet (fail)
          go_wp2
          go_roundw
          case rel => exact ⟨k + 1, by omega, by go_num, _, rfl⟩
          case measure => simp [intOf]; omega
        · have i2 : ¬ (k : Int) < (lb : Int) := by omega
          rw [mix_ge _ _ _ hkn] at d3
          go_wp2
          go_quiet (fail)
          go_wp2
          go_roundw
          case rel => exact ⟨k + 1, by omega, by go_num, _, rfl⟩
          case measure => simp [intOf]; omega
      · go_wp2
        go_loopw [10] (fun i ws => ∃ k : Nat, k ≤ lb ∧ i = .int .i64 k ∧ ∃ q, ws = w3.drewN q) (fun i _ => lb - (intOf i).toNat)
        case atStart => exact ⟨0, Nat.zero_le _, rfl, _, rfl⟩
        case round =>
          obtain ⟨m, hm, rfl, q2, rfl⟩ := hrel
          by_cases hml : m < lb
          · have j1 : (m : Int) < (lb : Int) := by omega
            have j0 : (0 : Int) ≤ (m : Int) := by omega
            have xb := at_k TB.out cb hml hml
            have xy := at_k0 TY.out lb hml hml
            have d2 := HB3b.out m hml
            have d4 := HY3.out m hml
            go_wp2
            go_quiet (fail)
            go_wp2
            go_roundw
            case rel => exact ⟨m + 1, by omega, by go_num, _, rfl⟩
            case measure => simp [intOf]; omega
          · go_wp2
            go_ret
            exact ⟨rfl, below_drewN HB3.out _⟩
  · obtain rfl : la = n := by omega
    clear hn
    go_wp2
    go_loopw [9] (fun i wr => ∃ k : Nat, k ≤ la ∧ i = .int .i64 k ∧ ∃ q, wr = w3.drewN q) (fun i _ => la - (intOf i).toNat)
    case atStart => exact ⟨0, Nat.zero_le _, rfl, 0, rfl⟩
    case round =>
      obtain ⟨k, hk, rfl, q, rfl⟩ := hrel
      by_cases hlt : k < la
      · have i1 : (k : Int) < (la : Int) := by omega
        have i0 : (0 : Int) ≤ (k : Int) := by omega
        have xa := at_k TA.out ca hlt hlt
        have xx := at_k0 TX.out la hlt hlt
        have d1 := HA3.out k hlt
        have d3 := HX.out.cell k hlt
        by_cases hkn : k < la
        · have i2 : (k : Int) < (la : Int) := by omega
          have i3 : (k : Int) < (lb : Int) := by omega
          have xb := at_k TB.out cb (show k < lb by omega) (show k < lb by omega)
          have d2 := HB3b.out k (by omega)
          rw [mix_lt _ _ _ hkn] at d3
          go_wp2
          go_quiet (fail)
          go_wp2
          go_roundw
          case rel => exact ⟨k + 1, by omega, by go_num, _, rfl⟩
          case measure => simp [intOf]; omega
        · exact absurd hlt hkn
      · go_wp2
        go_loopw [10] (fun i ws => ∃ k : Nat, k ≤ lb ∧ i = .int .i64 k ∧ ∃ q, ws = w3.drewN q) (fun i _ => lb - (intOf i).toNat)
        case atStart => exact ⟨0, Nat.zero_le _, rfl, _, rfl⟩
        case round =>
          obtain ⟨m, hm, rfl, q2, rfl⟩ := hrel
          by_cases hml : m < lb
          · have j1 : (m : Int) < (lb : Int) := by omega
            have j0 : (0 : Int) ≤ (m : Int) := by omega
            have xb := at_k TB.out cb hml hml
            have xy := at_k0 TY.out lb hml hml
            have d2 := HB3b.out m hml
            have d4 := HY3.out m hml
            go_wp2
            go_quiet (fail)
            go_wp2
            go_roundw
            case rel => exact ⟨m + 1, by omega, by go_num, _, rfl⟩
            case measure => simp [intOf]; omega
          · go_wp2
            go_ret
            exact ⟨rfl, below_drewN HB3.out _⟩

set_option maxHeartbeats 400000 in
theorem inplace_big (oa ob : Option Addr) (la lb ca cb : Nat) (w : World) (h : 1024 < la ∨ 1024 < lb) :
    Calls Yba.prog 4 #[.slice oa la ca, .slice ob lb cb] w fun e w' => e = .returned (.bool true) ∧ Below w.heap.size w w' := by
  by_cases h1 : 1024 < la
  · have hg1 : (1024 : Int) < (la : Int) := by omega
    clear h
    go_enter Yba.func4, Yba.ntmps4
    go_wp2
    go_ret
    exact ⟨rfl, Below.refl _ _⟩
  · have h2 : 1024 < lb := by omega
    clear h
    have hg1 : decide ((1024 : Int) < (la : Int)) = false := decide_eq_false (by omega)
    have hg2 : (1024 : Int) < (lb : Int) := by omega
    go_enter Yba.func4, Yba.ntmps4
    go_wp2
    go_ret
    exact ⟨rfl, Below.refl _ _⟩
end Go.Proofs.Ybulkccdu
