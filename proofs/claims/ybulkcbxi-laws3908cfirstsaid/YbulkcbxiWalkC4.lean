/- LawS3908CFirst: the law's own walk (function 5). -/
import Derived.Test.YbulkcbxiWalkC3
import Derived.Deep.RegionHeld3
namespace Go.Proofs.Ybulkcbxi
open Go.RowKit

theorem name_at (x : Int) (X : ByteArray) (w : World) (h : Hid (X = nm x)) (h0 : 0 ≤ x) (h1 : x ≤ 255) :
    Calls Yba.prog 12 #[.int .u8 x] w fun e w' => e = .returned (.string X) ∧ w' = w := by
  rw [h.out]; exact name_any x w h0 h1

theorem query_at (x : Int) (q Q : ByteArray) (w : World) (h : Hid (Q = qy x q)) (h0 : 0 ≤ x) (h1 : x ≤ 255) :
    Calls Yba.prog 10 #[.int .u8 x, .string q] w fun e w' => e = .returned (.string Q) ∧ w' = w := by
  rw [h.out]; exact query_any x q w h0 h1

theorem cell_old {w : World} {o : Obj} {b j : Nat} (h : b < w.heap.size) : (w.alloc o).cell? ⟨b, j, none⟩ = w.cell? ⟨b, j, none⟩ :=
  ((Below.refl w.heap.size w).alloc (Nat.le_refl _) o).cell (p := ⟨b, j, none⟩) h

theorem row_cells {w1 : World} {B base len : Nat} {zs : List Int} (hown : w1.ownsRow base 38 4 (.slice (some ⟨B, 0, none⟩) len len) len (MC zs len)) :
    ∀ k r, k < len → r < 4 → w1.cell? ⟨B, k * 4 + r, none⟩ = [Value.string (nm (zs.getD k 0)), .int .u8 4, .string (rp k), .slice none 0 0][r]? := by
  intro k r hk hr
  rw [hown.cellAt (k * 4 + r) (by omega), MC_at zs len k r hk hr]

set_option maxHeartbeats 400000 in
theorem lawC_found (b off len cap f : Nat) (zs : List Int) (st : Int) (q Q : ByteArray) (w : World) (hlen : len ≤ 300)
    (hcell : ∀ i, i < len → w.cell? ⟨b, off + i, none⟩ = some (.int .u8 (zs.getD i 0))) (hz : ∀ j : Nat, 0 ≤ zs.getD j 0 ∧ zs.getD j 0 ≤ 255) (hbw : 0 < len → b < w.heap.size)
    (hs1 : 0 ≤ st) (hs2 : st ≤ 255) (HQ : Hid (Q = qy st q))
    (hf : f < len) (hno : ∀ j, j < f → ((nm (zs.getD j 0)).toList == Q.toList) = false) (hyes : ((nm (zs.getD f 0)).toList == Q.toList) = true) :
    Calls Yba.prog 5 #[.slice (some ⟨b, off, none⟩) len cap, .int .u8 st, .string q] w fun e w' => e = .returned (.bool true) ∧ Below w.heap.size w w' := by
  have hg1 : decide ((300 : Int) < (len : Int)) = false := decide_eq_false (by omega)
  have HY : Hid (((nm (zs.getD f 0)).toList == Q.toList) = true) := hyes
  have HN : Hid (∀ j, j < f → ((nm (zs.getD j 0)).toList == Q.toList) = false) := hno
  clear hyes hno
  go_enter Yba.func5, Yba.ntmps5
  go_wp2_with (go_at_call 9; refine (members_core b off len cap zs _ hlen hcell hz hbw).mono ?_; rintro e w1 ⟨rfl, hown, hb1⟩)
  have hB1 : w.heap.size < w1.heap.size := (hown.lt _ rfl).2
  have hM : ∀ k r, k < len → r < 4 → (w1.alloc (.cells #[.int .u8 6, .string ⟨#[]⟩, .slice (some ⟨w.heap.size, 0, none⟩) len len] 32)).cell? ⟨w.heap.size, k * 4 + r, none⟩ = [Value.string (nm (zs.getD k 0)), .int .u8 4, .string (rp k), .slice none 0 0][r]? :=
    fun k r hk hr => (cell_old hB1).trans (row_cells hown k r hk hr)
  clear hown
  refine (query_at st q Q _ HQ hs1 hs2).mono ?_
  rintro e w' ⟨rfl, hw⟩
  subst hw
  go_wp2_with (go_at_call 11; refine (member_found w.heap.size len f zs _ Q _ hlen (by simp; omega) hM hf HN.out HY.out).mono ?_; rintro e w2 ⟨rfl, hb2⟩)
  have hsz2 : w1.heap.size + 1 ≤ w2.heap.size := by have := hb2.size; simpa using this
  have hbb : b < w.heap.size := hbw (by omega)
  have hb2w : b < w2.heap.size := by omega
  have hBw : w.heap.size < w2.heap.size := by omega
  have HC : Hid (∀ i, i < len → w2.cell? ⟨b, off + i, none⟩ = some (.int .u8 (zs.getD i 0))) := by
    intro i hi
    rw [hb2.cell (p := ⟨b, off + i, none⟩) (by simp; omega), cell_old (by omega), hb1.cell (p := ⟨b, off + i, none⟩) hbb]
    exact hcell i hi
  have hM2 : ∀ k r, k < len → r < 4 → w2.cell? ⟨w.heap.size, k * 4 + r, none⟩ = [Value.string (nm (zs.getD k 0)), .int .u8 4, .string (rp k), .slice none 0 0][r]? :=
    fun k r hk hr => (hb2.cell (p := ⟨w.heap.size, k * 4 + r, none⟩) (by simp; omega)).trans (hM k r hk hr)
  have HM2 : Hid (∀ k r, k < len → r < 4 → w2.cell? ⟨w.heap.size, k * 4 + r, none⟩ = [Value.string (nm (zs.getD k 0)), .int .u8 4, .string (rp k), .slice none 0 0][r]?) := hM2
  have HB : Hid (Below w.heap.size w w2) := ((hb1.alloc hb1.size _).trans (hb2.mono (by simp; omega)))
  clear hM2 hM hcell hb2 hb1
  go_loop [11, 12] (fun x i => ∃ k : Nat, k ≤ f ∧ i = .int .i64 k ∧ x = .int .i64 (-1)) (fun _ i => len - (intOf i).toNat)
  case atStart => exact ⟨0, Nat.zero_le _, rfl, rfl⟩
  case round =>
    obtain ⟨k, hk, rfl, rfl⟩ := hrel
    obtain ⟨z, hzz⟩ : ∃ z, z = zs.getD k 0 := ⟨_, rfl⟩
    obtain ⟨X, hX⟩ : ∃ X, X = nm z := ⟨_, rfl⟩
    have HX : Hid (X = nm z) := hX
    have hc : w2.cell? ⟨b, off + k, none⟩ = some (.int .u8 z) := by rw [hzz]; exact HC.out k (by omega)
    obtain ⟨q1, q2⟩ : 0 ≤ z ∧ z ≤ 255 := by rw [hzz]; exact hz k
    by_cases hlt : k < f
    · have hn : (X.toList == Q.toList) = false := by rw [hX, hzz]; exact HN.out k hlt
      clear hX hzz
      go_wp2_with (go_at_call 12; refine (name_at _ X _ HX q1 q2).mono ?_; rintro e w' ⟨rfl, hw⟩; subst hw)
      go_round
      case rel => exact ⟨k + 1, by omega, by go_num, rfl⟩
      case measure => simp [intOf]; omega
    · have e : k = f := by omega
      subst e
      have hn : (X.toList == Q.toList) = true := by rw [hX, hzz]; exact HY.out
      clear hX hzz
      go_wp2_with (go_at_call 12; refine (name_at _ X _ HX q1 q2).mono ?_; rintro e w' ⟨rfl, hw⟩; subst hw)
      have hgot : (w2.alloc (.cells #[.int .u8 4, .string (rp k), .slice none 0 0] 32)).cell? ⟨w2.heap.size, 1, none⟩ = some (.string (rp k)) := by simp
      have HBW : Hid (Below w.heap.size w (w2.alloc (.cells #[.int .u8 4, .string (rp k), .slice none 0 0] 32))) := HB.out.alloc HB.out.size _
      have HCW : Hid (∀ i, i < len → (w2.alloc (.cells #[.int .u8 4, .string (rp k), .slice none 0 0] 32)).cell? ⟨b, off + i, none⟩ = some (.int .u8 (zs.getD i 0))) := fun i hi => (cell_old hb2w).trans (HC.out i hi)
      have HMW : Hid (∀ k' r, k' < len → r < 4 → (w2.alloc (.cells #[.int .u8 4, .string (rp k), .slice none 0 0] 32)).cell? ⟨w.heap.size, k' * 4 + r, none⟩ = [Value.string (nm (zs.getD k' 0)), .int .u8 4, .string (rp k'), .slice none 0 0][r]?) := fun k' r hk hr => (cell_old hBw).trans (HM2.out k' r hk hr)
      have hszW : (w2.alloc (.cells #[.int .u8 4, .string (rp k), .slice none 0 0] 32)).heap.size = w2.heap.size + 1 := by simp
      clear hc HC HM2 HB HX hn
      generalize w2.alloc (.cells #[.int .u8 4, .string (rp k), .slice none 0 0] 32) = W at *
      generalize w2.heap.size = G at *
      have hGW : G < W.heap.size := by omega
      clear hszW
      go_region_held3 (fun w' => w'.cell? ⟨G, 1, none⟩ = some (.string (rp k)) ∧ Below W.heap.size W w') (first | exact ⟨hgot, (Below.refl _ _).drew⟩ | exact ⟨(hb3.cell (p := ⟨G, 1, none⟩) hGW).trans hgot, (Below.refl _ _).drew.trans hb3⟩) ((go_at_call 13; refine (repeat_any k _ (by omega)).mono ?_; rintro e w3 ⟨rfl, hb3⟩))
      go_wp2
      have hbW : Below W.heap.size W w3 := (Below.refl _ _).drew.trans hb3
      clear hb3 HN HY
      go_loopw [13] (fun i wr => ∃ m : Nat, m ≤ len ∧ i = .int .i64 m ∧ Below W.heap.size W wr) (fun i _ => len - (intOf i).toNat)
      case atStart => exact ⟨0, Nat.zero_le _, rfl, hbW⟩
      case round =>
        obtain ⟨m, hm, rfl, hbr⟩ := hrel
        clear hbW
        by_cases hml : m < len
        · obtain ⟨y, hy⟩ : ∃ y, y = zs.getD m 0 := ⟨_, rfl⟩
          obtain ⟨Y, hY⟩ : ∃ Y, Y = nm y := ⟨_, rfl⟩
          have HYY : Hid (Y = nm y) := hY
          have e0 : W.cell? ⟨b, off + m, none⟩ = some (.int .u8 y) := by rw [hy]; exact HCW.out m hml
          have e1 : W.cell? ⟨w.heap.size, m * 4, none⟩ = some (.string Y) := by rw [hY, hy]; exact HMW.out m 0 hml (by omega)
          have e2 : W.cell? ⟨w.heap.size, m * 4 + 2, none⟩ = some (.string (rp m)) := HMW.out m 2 hml (by omega)
          obtain ⟨p1, p2⟩ : 0 ≤ y ∧ y ≤ 255 := by rw [hy]; exact hz m
          have d0 : wr.cell? ⟨b, off + m, none⟩ = some (.int .u8 y) := (hbr.cell (p := ⟨b, off + m, none⟩) (by simp; omega)).trans e0
          have d1 : wr.cell? ⟨w.heap.size, m * 4, none⟩ = some (.string Y) := (hbr.cell (p := ⟨w.heap.size, m * 4, none⟩) (by simp; omega)).trans e1
          have d2 : wr.cell? ⟨w.heap.size, m * 4 + 2, none⟩ = some (.string (rp m)) := (hbr.cell (p := ⟨w.heap.size, m * 4 + 2, none⟩) (by simp; omega)).trans e2
          have hv2 : W.heap.size ≤ wr.heap.size := hbr.size
          have hv0 : b < wr.heap.size := by omega
          have hv1 : w.heap.size < wr.heap.size := by omega
          have i1 : (0 : Int) ≤ (m : Int) := by omega
          have i2 : (m : Int) < (len : Int) := by omega
          clear hY hy e0 e1 e2 HCW HMW HBW hgot
          go_wp2
          go_region_held3 (fun w' => w'.cell? ⟨b, off + m, none⟩ = some (.int .u8 y) ∧ w'.cell? ⟨w.heap.size, m * 4, none⟩ = some (.string Y) ∧ w'.cell? ⟨w.heap.size, m * 4 + 2, none⟩ = some (.string (rp m)) ∧ Below W.heap.size W w') (first | assumption | exact ⟨d0, d1, d2, hbr.drew⟩ | exact ⟨(hb5.cell (p := ⟨b, off + m, none⟩) hv0).trans d0, (hb5.cell (p := ⟨w.heap.size, m * 4, none⟩) hv1).trans d1, (hb5.cell (p := ⟨w.heap.size, m * 4 + 2, none⟩) hv1).trans d2, hbr.drew.trans (hb5.mono hv2)⟩ | fail) (first | (go_at_call 12; refine (name_at _ Y _ HYY p1 p2).mono ?_; rintro e w4 ⟨rfl, rfl⟩) | (go_at_call 13; refine (repeat_any m _ (by omega)).mono ?_; rintro e w5 ⟨rfl, hb5⟩))
          rename_i hHeld
          go_wp2
          go_roundw
          case rel => exact ⟨m + 1, by omega, by go_num, hHeld.2.2.2⟩
          case measure => simp [intOf]; omega
        · go_wp2
          go_ret
          exact ⟨rfl, HBW.out.trans (hbr.mono HBW.out.size)⟩

set_option maxHeartbeats 400000 in
theorem lawC_none (b off len cap : Nat) (zs : List Int) (st : Int) (q Q : ByteArray) (w : World) (hlen : len ≤ 300)
    (hcell : ∀ i, i < len → w.cell? ⟨b, off + i, none⟩ = some (.int .u8 (zs.getD i 0))) (hz : ∀ j : Nat, 0 ≤ zs.getD j 0 ∧ zs.getD j 0 ≤ 255) (hbw : 0 < len → b < w.heap.size)
    (hs1 : 0 ≤ st) (hs2 : st ≤ 255) (HQ : Hid (Q = qy st q))
    (hno : ∀ j, j < len → ((nm (zs.getD j 0)).toList == Q.toList) = false) (hpos : 0 < len) :
    Calls Yba.prog 5 #[.slice (some ⟨b, off, none⟩) len cap, .int .u8 st, .string q] w fun e w' => e = .returned (.bool true) ∧ Below w.heap.size w w' := by
  have hg1 : decide ((300 : Int) < (len : Int)) = false := decide_eq_false (by omega)
  have HN : Hid (∀ j, j < len → ((nm (zs.getD j 0)).toList == Q.toList) = false) := hno
  clear hno
  go_enter Yba.func5, Yba.ntmps5
  go_wp2_with (go_at_call 9; refine (members_core b off len cap zs _ hlen hcell hz hbw).mono ?_; rintro e w1 ⟨rfl, hown, hb1⟩)
  have hB1 : w.heap.size < w1.heap.size := (hown.lt _ rfl).2
  have hM : ∀ k r, k < len → r < 4 → (w1.alloc (.cells #[.int .u8 6, .string ⟨#[]⟩, .slice (some ⟨w.heap.size, 0, none⟩) len len] 32)).cell? ⟨w.heap.size, k * 4 + r, none⟩ = [Value.string (nm (zs.getD k 0)), .int .u8 4, .string (rp k), .slice none 0 0][r]? :=
    fun k r hk hr => (cell_old hB1).trans (row_cells hown k r hk hr)
  clear hown
  refine (query_at st q Q _ HQ hs1 hs2).mono ?_
  rintro e w' ⟨rfl, hw⟩
  subst hw
  go_wp2_with (go_at_call 11; refine (member_none w.heap.size len zs _ Q _ hlen (by simp; omega) hM HN.out).mono ?_; rintro e w2 ⟨rfl, hb2⟩)
  have hsz2 : w1.heap.size + 1 ≤ w2.heap.size := by have := hb2.size; simpa using this
  have hbb : b < w.heap.size := hbw (by omega)
  have hb2w : b < w2.heap.size := by omega
  have hBw : w.heap.size < w2.heap.size := by omega
  have HC : Hid (∀ i, i < len → w2.cell? ⟨b, off + i, none⟩ = some (.int .u8 (zs.getD i 0))) := by
    intro i hi
    rw [hb2.cell (p := ⟨b, off + i, none⟩) (by simp; omega), cell_old (by omega), hb1.cell (p := ⟨b, off + i, none⟩) hbb]
    exact hcell i hi
  have HB : Hid (Below w.heap.size w w2) := ((hb1.alloc hb1.size _).trans (hb2.mono (by simp; omega)))
  clear hM hcell hb2 hb1
  go_loop [11, 12] (fun x i => ∃ k : Nat, k ≤ len ∧ i = .int .i64 k ∧ x = .int .i64 (-1)) (fun _ i => len - (intOf i).toNat)
  case atStart => exact ⟨0, Nat.zero_le _, rfl, rfl⟩
  case round =>
    obtain ⟨k, hk, rfl, rfl⟩ := hrel
    by_cases hlt : k < len
    · obtain ⟨z, hzz⟩ : ∃ z, z = zs.getD k 0 := ⟨_, rfl⟩
      obtain ⟨X, hX⟩ : ∃ X, X = nm z := ⟨_, rfl⟩
      have HX : Hid (X = nm z) := hX
      have hc : w2.cell? ⟨b, off + k, none⟩ = some (.int .u8 z) := by rw [hzz]; exact HC.out k (by omega)
      obtain ⟨q1, q2⟩ : 0 ≤ z ∧ z ≤ 255 := by rw [hzz]; exact hz k
      have hn : (X.toList == Q.toList) = false := by rw [hX, hzz]; exact HN.out k hlt
      clear hX hzz
      go_wp2_with (go_at_call 12; refine (name_at _ X _ HX q1 q2).mono ?_; rintro e w' ⟨rfl, hw⟩; subst hw)
      go_round
      case rel => exact ⟨k + 1, by omega, by go_num, rfl⟩
      case measure => simp [intOf]; omega
    · have hnil := fun w => Lib.run_eql_slice_nil (P := Yba.prog) (w := w)
      go_wp2
      go_ret
      exact ⟨rfl, HB.out.alloc HB.out.size _⟩

set_option maxHeartbeats 400000 in
theorem lawC_empty (a0 : Option Addr) (len cap : Nat) (zs : List Int) (st : Int) (q Q : ByteArray) (w : World) (hlen0 : len ≤ 0) (hs1 : 0 ≤ st) (hs2 : st ≤ 255) (HQ : Hid (Q = qy st q)) :
    Calls Yba.prog 5 #[.slice a0 len cap, .int .u8 st, .string q] w fun e w' => e = .returned (.bool true) ∧ Below w.heap.size w w' := by
  have hg1 : decide ((300 : Int) < (len : Int)) = false := decide_eq_false (by omega)
  have hlen : len ≤ 300 := by omega
  go_enter Yba.func5, Yba.ntmps5
  go_wp2_with (go_at_call 9; refine (members_empty a0 len cap zs _ hlen0).mono ?_; rintro e w1 ⟨rfl, hown, hb1⟩)
  have hB1 : w.heap.size < w1.heap.size := (hown.lt _ rfl).2
  have hM : ∀ k r, k < len → r < 4 → (w1.alloc (.cells #[.int .u8 6, .string ⟨#[]⟩, .slice (some ⟨w.heap.size, 0, none⟩) len len] 32)).cell? ⟨w.heap.size, k * 4 + r, none⟩ = [Value.string (nm (zs.getD k 0)), .int .u8 4, .string (rp k), .slice none 0 0][r]? :=
    fun k r hk hr => (cell_old hB1).trans (row_cells hown k r hk hr)
  clear hown
  refine (query_at st q Q _ HQ hs1 hs2).mono ?_
  rintro e w' ⟨rfl, hw⟩
  subst hw
  go_wp2_with (go_at_call 11; refine (member_none w.heap.size len zs _ Q _ hlen (by simp; omega) hM (fun j hj => by omega)).mono ?_; rintro e w2 ⟨rfl, hb2⟩)
  have hsz2 : w1.heap.size + 1 ≤ w2.heap.size := by have := hb2.size; simpa using this
  have HB : Hid (Below w.heap.size w w2) := ((hb1.alloc hb1.size _).trans (hb2.mono (by simp; omega)))
  clear hM hb2 hb1
  go_loop [11, 12] (fun x i => ∃ k : Nat, k ≤ len ∧ i = .int .i64 k ∧ x = .int .i64 (-1)) (fun _ i => len - (intOf i).toNat)
  case atStart => exact ⟨0, Nat.zero_le _, rfl, rfl⟩
  case round =>
    obtain ⟨k, hk, rfl, rfl⟩ := hrel
    · have hnil := fun w => Lib.run_eql_slice_nil (P := Yba.prog) (w := w)
      go_wp2
      go_ret
      exact ⟨rfl, HB.out.alloc HB.out.size _⟩


set_option maxHeartbeats 400000 in
theorem lawC_big (a0 : Option Addr) (len cap : Nat) (st : Int) (q : ByteArray) (w : World) (h : 300 < len) :
    Calls Yba.prog 5 #[.slice a0 len cap, .int .u8 st, .string q] w fun e w' => e = .returned (.bool true) ∧ Below w.heap.size w w' := by
  have hg1 : (300 : Int) < (len : Int) := by omega
  go_enter Yba.func5, Yba.ntmps5
  go_wp2
  go_ret
  exact ⟨rfl, Below.refl _ _⟩

/-- there is a first place with the name, or none -/
theorem first_or_none (p : Nat → Bool) : ∀ n, (∃ f, f < n ∧ p f = true ∧ ∀ j, j < f → p j = false) ∨ ∀ j, j < n → p j = false
  | 0 => .inr fun j h => by omega
  | n + 1 => by
    rcases first_or_none p n with ⟨f, h1, h2, h3⟩ | h
    · exact .inl ⟨f, by omega, h2, h3⟩
    · cases hp : p n with
      | true => exact .inl ⟨n, by omega, hp, h⟩
      | false =>
        refine .inr fun j hj => ?_
        by_cases e : j = n
        · rw [e]; exact hp
        · exact h j (by omega)

end Go.Proofs.Ybulkcbxi
