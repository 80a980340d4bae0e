/- later (9), LawS3911CPicks (4), LawS3911CUpper (5). -/
import Derived.Test.YbulkcbyyWalkT2
namespace Go.Proofs.Ybulkcbyy
open Go.RowKit

set_option maxHeartbeats 400000 in
theorem later_b (x s y r : Int) (w : World) (h0 : 0 ≤ x) (h1 : x < 1000000000) (g0 : 0 ≤ y) (g1 : y < 1000000000) (h : s < r ∨ (r = s ∧ x < y)) :
    Calls Yba.prog 9 #[.agg #[.int .u64 x, .int .i64 s, .pointer none], .agg #[.int .u64 y, .int .i64 r, .pointer none]] w fun e w' => e = .returned (.agg #[.int .u64 y, .int .i64 r, .pointer none]) ∧ Below w.heap.size w w' := by
  have HA : Hid (∀ w, Calls Yba.prog 13 #[.agg #[.int .u64 y, .int .i64 r, .pointer none], .agg #[.int .u64 x, .int .i64 s, .pointer none]] w fun e w' => e = .returned (.bool true) ∧ w' = (w.alloc (.cells #[.int .u64 y, .int .i64 r, .pointer none] 39)).alloc (.cells #[.int .u64 x, .int .i64 s, .pointer none] 39)) :=
    fun w => after_yes y r x s w g0 g1 h0 h1 h
  clear h
  go_enter Yba.func9, Yba.ntmps9
  go_wp2_with (go_at_call 13; refine (HA.out _).mono ?_; rintro e w1 ⟨rfl, rfl⟩)
  refine bodyPost_ret (v := .agg #[.int .u64 y, .int .i64 r, .pointer none]) (by simp [results, Yba.results9, go_sem]) rfl ⟨rfl, ?_⟩
  exact (((((Below.refl _ _).alloc (Nat.le_refl _) _).alloc (by simp) _).alloc (by simp; omega) _).alloc (by simp; omega) _).alloc (by simp; omega) _

set_option maxHeartbeats 400000 in
theorem later_a (x s y r : Int) (w : World) (h0 : 0 ≤ x) (h1 : x < 1000000000) (g0 : 0 ≤ y) (g1 : y < 1000000000) (h : ¬ (s < r ∨ (r = s ∧ x < y))) :
    Calls Yba.prog 9 #[.agg #[.int .u64 x, .int .i64 s, .pointer none], .agg #[.int .u64 y, .int .i64 r, .pointer none]] w fun e w' => e = .returned (.agg #[.int .u64 x, .int .i64 s, .pointer none]) ∧ Below w.heap.size w w' := by
  have HA : Hid (∀ w, Calls Yba.prog 13 #[.agg #[.int .u64 y, .int .i64 r, .pointer none], .agg #[.int .u64 x, .int .i64 s, .pointer none]] w fun e w' => e = .returned (.bool false) ∧ w' = (w.alloc (.cells #[.int .u64 y, .int .i64 r, .pointer none] 39)).alloc (.cells #[.int .u64 x, .int .i64 s, .pointer none] 39)) :=
    fun w => after_no y r x s w g0 g1 h0 h1 h
  clear h
  go_enter Yba.func9, Yba.ntmps9
  go_wp2_with (go_at_call 13; refine (HA.out _).mono ?_; rintro e w1 ⟨rfl, rfl⟩)
  refine bodyPost_ret (v := .agg #[.int .u64 x, .int .i64 s, .pointer none]) (by simp [results, Yba.results9, go_sem]) rfl ⟨rfl, ?_⟩
  exact (((((Below.refl _ _).alloc (Nat.le_refl _) _).alloc (by simp) _).alloc (by simp; omega) _).alloc (by simp; omega) _).alloc (by simp; omega) _

/-- the three cells of a time that lies in block g -/
structure TimeAt (w : World) (g : Nat) (x s : Int) : Prop where
  c0 : w.cell? ⟨g, 0, none⟩ = some (.int .u64 x)
  c1 : w.cell? ⟨g, 1, none⟩ = some (.int .i64 s)
  c2 : w.cell? ⟨g, 2, none⟩ = some (.pointer none)
  lt : g < w.heap.size

theorem timeAt_new (w : World) (x s : Int) : TimeAt (w.alloc (.cells #[.int .u64 x, .int .i64 s, .pointer none] 39)) w.heap.size x s :=
  ⟨by simp, by simp, by simp, by simp⟩
theorem TimeAt.later {w w' : World} {g : Nat} {x s : Int} (h : TimeAt w g x s) (hb : Below w.heap.size w w') : TimeAt w' g x s :=
  ⟨(hb.cell (p := ⟨g, 0, none⟩) h.lt).trans h.c0, (hb.cell (p := ⟨g, 1, none⟩) h.lt).trans h.c1, (hb.cell (p := ⟨g, 2, none⟩) h.lt).trans h.c2, Nat.lt_of_lt_of_le h.lt hb.size⟩
theorem TimeAt.alloc {w : World} {g : Nat} {x s : Int} (h : TimeAt w g x s) (o : Obj) : TimeAt (w.alloc o) g x s :=
  h.later ((Below.refl _ _).alloc (Nat.le_refl _) o)

theorem eq_nil (w : World) : (Op.equalIn 9999 37 (.pointer none) (.pointer none)).run Yba.prog w = .ok true w := by
  have h : ∀ d : Nat, (Op.equalIn (d + 1) 37 (.pointer none) (.pointer none)).run Yba.prog w = .ok true w := fun d => by
    simp [Op.equalIn, run_underlying Yba.underlying37]
  exact h 9998

set_option maxHeartbeats 400000 in
theorem picks_b (x s y r na nb : Int) (w : World) (HA : Hid (∀ w, Calls Yba.prog 8 #[.int .i64 na] w fun e w' => e = .returned (.agg #[.int .u64 x, .int .i64 s, .pointer none]) ∧ Below w.heap.size w w'))
    (HB : Hid (∀ w, Calls Yba.prog 8 #[.int .i64 nb] w fun e w' => e = .returned (.agg #[.int .u64 y, .int .i64 r, .pointer none]) ∧ Below w.heap.size w w'))
    (HL : Hid (∀ w, Calls Yba.prog 9 #[.agg #[.int .u64 x, .int .i64 s, .pointer none], .agg #[.int .u64 y, .int .i64 r, .pointer none]] w fun e w' => e = .returned (.agg #[.int .u64 y, .int .i64 r, .pointer none]) ∧ Below w.heap.size w w'))
    (hlt : na < nb) :
    Calls Yba.prog 4 #[.int .i64 na, .int .i64 nb] w fun e w' => e = .returned (.bool true) ∧ Below w.heap.size w w' := by
  go_enter Yba.func4, Yba.ntmps4
  go_wp2_with fail
  refine (HA.out _).mono ?_
  rintro e w1 ⟨rfl, hb1⟩
  go_wp2_with fail
  refine (HB.out _).mono ?_
  rintro e w2 ⟨rfl, hb2⟩
  have A2 := (timeAt_new w1 x s).later hb2
  have HB2 : Hid (Below w.heap.size w w2) := (hb1.alloc hb1.size _).trans (hb2.mono (by have := hb1.size; simp; omega))
  obtain ⟨a0, a1, a2, al⟩ := A2
  have z1 := hb1.size
  clear hb1 hb2
  go_wp2_with fail
  refine (HL.out _).mono ?_
  rintro e w3 ⟨rfl, hb3⟩
  have B3 := (timeAt_new w2 y r).later hb3
  have A3 := (TimeAt.alloc ⟨a0, a1, a2, al⟩ _).later hb3
  have HB3 : Hid (Below w.heap.size w w3) := (HB2.out.alloc HB2.out.size _).trans (hb3.mono (by have := HB2.out.size; simp; omega))
  obtain ⟨b0, b1, b2, bl⟩ := B3
  obtain ⟨d0, d1, d2, dl⟩ := A3
  clear hb3 a0 a1 a2
  have hnil := eq_nil
  go_wp2
  go_ret
  exact ⟨rfl, HB3.out.alloc HB3.out.size _⟩
set_option maxHeartbeats 400000 in
theorem picks_a (x s y r na nb : Int) (w : World) (HA : Hid (∀ w, Calls Yba.prog 8 #[.int .i64 na] w fun e w' => e = .returned (.agg #[.int .u64 x, .int .i64 s, .pointer none]) ∧ Below w.heap.size w w'))
    (HB : Hid (∀ w, Calls Yba.prog 8 #[.int .i64 nb] w fun e w' => e = .returned (.agg #[.int .u64 y, .int .i64 r, .pointer none]) ∧ Below w.heap.size w w'))
    (HL : Hid (∀ w, Calls Yba.prog 9 #[.agg #[.int .u64 x, .int .i64 s, .pointer none], .agg #[.int .u64 y, .int .i64 r, .pointer none]] w fun e w' => e = .returned (.agg #[.int .u64 x, .int .i64 s, .pointer none]) ∧ Below w.heap.size w w'))
    (hlt : ¬ na < nb) :
    Calls Yba.prog 4 #[.int .i64 na, .int .i64 nb] w fun e w' => e = .returned (.bool true) ∧ Below w.heap.size w w' := by
  go_enter Yba.func4, Yba.ntmps4
  go_wp2_with fail
  refine (HA.out _).mono ?_
  rintro e w1 ⟨rfl, hb1⟩
  go_wp2_with fail
  refine (HB.out _).mono ?_
  rintro e w2 ⟨rfl, hb2⟩
  have A2 := (timeAt_new w1 x s).later hb2
  have HB2 : Hid (Below w.heap.size w w2) := (hb1.alloc hb1.size _).trans (hb2.mono (by have := hb1.size; simp; omega))
  obtain ⟨a0, a1, a2, al⟩ := A2
  have z1 := hb1.size
  clear hb1 hb2
  go_wp2_with fail
  refine (HL.out _).mono ?_
  rintro e w3 ⟨rfl, hb3⟩
  have B3 := (timeAt_new w2 y r).later hb3
  have A3 := (TimeAt.alloc ⟨a0, a1, a2, al⟩ _).later hb3
  have HB3 : Hid (Below w.heap.size w w3) := (HB2.out.alloc HB2.out.size _).trans (hb3.mono (by have := HB2.out.size; simp; omega))
  obtain ⟨b0, b1, b2, bl⟩ := B3
  obtain ⟨d0, d1, d2, dl⟩ := A3
  clear hb3 a0 a1 a2
  have hnil := eq_nil
  go_wp2
  go_ret
  exact ⟨rfl, HB3.out.alloc HB3.out.size _⟩

set_option maxHeartbeats 400000 in
theorem upper_a (x s y r na nb : Int) (w : World) (HA : Hid (∀ w, Calls Yba.prog 8 #[.int .i64 na] w fun e w' => e = .returned (.agg #[.int .u64 x, .int .i64 s, .pointer none]) ∧ Below w.heap.size w w'))
    (HB : Hid (∀ w, Calls Yba.prog 8 #[.int .i64 nb] w fun e w' => e = .returned (.agg #[.int .u64 y, .int .i64 r, .pointer none]) ∧ Below w.heap.size w w'))
    (HL : Hid (∀ w, Calls Yba.prog 9 #[.agg #[.int .u64 x, .int .i64 s, .pointer none], .agg #[.int .u64 y, .int .i64 r, .pointer none]] w fun e w' => e = .returned (.agg #[.int .u64 x, .int .i64 s, .pointer none]) ∧ Below w.heap.size w w'))
    (HP : Hid (∀ w, Calls Yba.prog 10 #[.agg #[.int .u64 x, .int .i64 s, .pointer none], .agg #[.int .u64 x, .int .i64 s, .pointer none]] w fun e w' => e = .returned (.bool false) ∧ Below w.heap.size w w'))
    (HQ : Hid (∀ w, Calls Yba.prog 10 #[.agg #[.int .u64 x, .int .i64 s, .pointer none], .agg #[.int .u64 y, .int .i64 r, .pointer none]] w fun e w' => e = .returned (.bool false) ∧ Below w.heap.size w w')) :
    Calls Yba.prog 5 #[.int .i64 na, .int .i64 nb] w fun e w' => e = .returned (.bool true) ∧ Below w.heap.size w w' := by
  go_enter Yba.func5, Yba.ntmps5
  go_wp2_with fail
  refine (HA.out _).mono ?_
  rintro e w1 ⟨rfl, hb1⟩
  go_wp2_with fail
  refine (HB.out _).mono ?_
  rintro e w2 ⟨rfl, hb2⟩
  have A2 := (timeAt_new w1 x s).later hb2
  have HB2 : Hid (Below w.heap.size w w2) := (hb1.alloc hb1.size _).trans (hb2.mono (by have := hb1.size; simp; omega))
  obtain ⟨a0, a1, a2, al⟩ := A2
  have z1 := hb1.size
  clear hb1 hb2
  go_wp2_with fail
  refine (HL.out _).mono ?_
  rintro e w3 ⟨rfl, hb3⟩
  have B3 := (timeAt_new w2 y r).later hb3
  have A3 := (TimeAt.alloc ⟨a0, a1, a2, al⟩ _).later hb3
  have HB3 : Hid (Below w.heap.size w w3) := (HB2.out.alloc HB2.out.size _).trans (hb3.mono (by have := HB2.out.size; simp; omega))
  obtain ⟨b0, b1, b2, bl⟩ := B3
  obtain ⟨d0, d1, d2, dl⟩ := A3
  clear hb3 a0 a1 a2
  go_wp2_with fail
  refine (HP.out _).mono ?_
  rintro e w4 ⟨rfl, hb4⟩
  have G4 := (timeAt_new w3 x s).later hb4
  have B4 := (TimeAt.alloc ⟨b0, b1, b2, bl⟩ _).later hb4
  have A4 := (TimeAt.alloc ⟨d0, d1, d2, dl⟩ _).later hb4
  have HB4 : Hid (Below w.heap.size w w4) := (HB3.out.alloc HB3.out.size _).trans (hb4.mono (by have := HB3.out.size; simp; omega))
  clear b0 b1 b2 d0 d1 d2 hb4
  obtain ⟨b0, b1, b2, bl'⟩ := B4
  obtain ⟨d0, d1, d2, dl'⟩ := A4
  obtain ⟨g0, g1, g2, gl'⟩ := G4
  go_wp2_with fail
  refine (HQ.out _).mono ?_
  rintro e w5 ⟨rfl, hb5⟩
  have G5 := TimeAt.later ⟨g0, g1, g2, gl'⟩ hb5
  have B5 := TimeAt.later ⟨b0, b1, b2, bl'⟩ hb5
  have A5 := TimeAt.later ⟨d0, d1, d2, dl'⟩ hb5
  have HB5 : Hid (Below w.heap.size w w5) := HB4.out.trans (hb5.mono HB4.out.size)
  clear b0 b1 b2 d0 d1 d2 g0 g1 g2 hb5
  obtain ⟨b0, b1, b2, _⟩ := B5
  obtain ⟨d0, d1, d2, _⟩ := A5
  obtain ⟨g0, g1, g2, _⟩ := G5
  have hnil := eq_nil
  go_wp2
  go_ret
  exact ⟨rfl, HB5.out⟩

set_option maxHeartbeats 400000 in
theorem upper_b (x s y r na nb : Int) (w : World) (HA : Hid (∀ w, Calls Yba.prog 8 #[.int .i64 na] w fun e w' => e = .returned (.agg #[.int .u64 x, .int .i64 s, .pointer none]) ∧ Below w.heap.size w w'))
    (HB : Hid (∀ w, Calls Yba.prog 8 #[.int .i64 nb] w fun e w' => e = .returned (.agg #[.int .u64 y, .int .i64 r, .pointer none]) ∧ Below w.heap.size w w'))
    (HL : Hid (∀ w, Calls Yba.prog 9 #[.agg #[.int .u64 x, .int .i64 s, .pointer none], .agg #[.int .u64 y, .int .i64 r, .pointer none]] w fun e w' => e = .returned (.agg #[.int .u64 y, .int .i64 r, .pointer none]) ∧ Below w.heap.size w w'))
    (HP : Hid (∀ w, Calls Yba.prog 10 #[.agg #[.int .u64 y, .int .i64 r, .pointer none], .agg #[.int .u64 x, .int .i64 s, .pointer none]] w fun e w' => e = .returned (.bool false) ∧ Below w.heap.size w w'))
    (HQ : Hid (∀ w, Calls Yba.prog 10 #[.agg #[.int .u64 y, .int .i64 r, .pointer none], .agg #[.int .u64 y, .int .i64 r, .pointer none]] w fun e w' => e = .returned (.bool false) ∧ Below w.heap.size w w')) :
    Calls Yba.prog 5 #[.int .i64 na, .int .i64 nb] w fun e w' => e = .returned (.bool true) ∧ Below w.heap.size w w' := by
  go_enter Yba.func5, Yba.ntmps5
  go_wp2_with fail
  refine (HA.out _).mono ?_
  rintro e w1 ⟨rfl, hb1⟩
  go_wp2_with fail
  refine (HB.out _).mono ?_
  rintro e w2 ⟨rfl, hb2⟩
  have A2 := (timeAt_new w1 x s).later hb2
  have HB2 : Hid (Below w.heap.size w w2) := (hb1.alloc hb1.size _).trans (hb2.mono (by have := hb1.size; simp; omega))
  obtain ⟨a0, a1, a2, al⟩ := A2
  have z1 := hb1.size
  clear hb1 hb2
  go_wp2_with fail
  refine (HL.out _).mono ?_
  rintro e w3 ⟨rfl, hb3⟩
  have B3 := (timeAt_new w2 y r).later hb3
  have A3 := (TimeAt.alloc ⟨a0, a1, a2, al⟩ _).later hb3
  have HB3 : Hid (Below w.heap.size w w3) := (HB2.out.alloc HB2.out.size _).trans (hb3.mono (by have := HB2.out.size; simp; omega))
  obtain ⟨b0, b1, b2, bl⟩ := B3
  obtain ⟨d0, d1, d2, dl⟩ := A3
  clear hb3 a0 a1 a2
  go_wp2_with fail
  refine (HP.out _).mono ?_
  rintro e w4 ⟨rfl, hb4⟩
  have G4 := (timeAt_new w3 y r).later hb4
  have B4 := (TimeAt.alloc ⟨b0, b1, b2, bl⟩ _).later hb4
  have A4 := (TimeAt.alloc ⟨d0, d1, d2, dl⟩ _).later hb4
  have HB4 : Hid (Below w.heap.size w w4) := (HB3.out.alloc HB3.out.size _).trans (hb4.mono (by have := HB3.out.size; simp; omega))
  clear b0 b1 b2 d0 d1 d2 hb4
  obtain ⟨b0, b1, b2, bl'⟩ := B4
  obtain ⟨d0, d1, d2, dl'⟩ := A4
  obtain ⟨g0, g1, g2, gl'⟩ := G4
  go_wp2_with fail
  refine (HQ.out _).mono ?_
  rintro e w5 ⟨rfl, hb5⟩
  have G5 := TimeAt.later ⟨g0, g1, g2, gl'⟩ hb5
  have B5 := TimeAt.later ⟨b0, b1, b2, bl'⟩ hb5
  have A5 := TimeAt.later ⟨d0, d1, d2, dl'⟩ hb5
  have HB5 : Hid (Below w.heap.size w w5) := HB4.out.trans (hb5.mono HB4.out.size)
  clear b0 b1 b2 d0 d1 d2 g0 g1 g2 hb5
  obtain ⟨b0, b1, b2, _⟩ := B5
  obtain ⟨d0, d1, d2, _⟩ := A5
  obtain ⟨g0, g1, g2, _⟩ := G5
  have hnil := eq_nil
  by_cases e1 : y = x
  · by_cases e2 : r = s
    · subst e1 e2
      go_wp2
      go_ret
      exact ⟨rfl, HB5.out⟩
    · subst e1
      have f2 : (r == s) = false := by simpa using e2
      go_wp2
      go_ret
      exact ⟨rfl, HB5.out⟩
  · have f1 : (y == x) = false := by simpa using e1
    go_wp2
    go_ret
    exact ⟨rfl, HB5.out⟩
end Go.Proofs.Ybulkcbyy
