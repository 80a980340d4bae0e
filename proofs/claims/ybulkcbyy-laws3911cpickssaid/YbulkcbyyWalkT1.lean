/- time.Time without a monotonic clock reading: nsec (16), sec (15), After (13), Before (10), addSec (19), Add (12). -/
import Derived.Test.YbulkcbyyRows
import Derived.Test.YbulkcbyyBits
import Derived.WalkKit
import Derived.WalkSpells
import Derived.WalkLawsBesides
namespace Go.Proofs.Ybulkcbyy
open Go.RowKit

set_option maxHeartbeats 400000 in
theorem nsec_any (p : Nat) (x : Int) (w : World) (hc : w.cell? ⟨p, 0, none⟩ = some (.int .u64 x)) (h0 : 0 ≤ x) (h1 : x < 1000000000) :
    Calls Yba.prog 16 #[.pointer (some ⟨p, 0, none⟩)] w fun e w' => e = .returned (.int .i32 x) ∧ w' = w := by
  have b1 := and_mask x h0 (by omega)
  go_enter Yba.func16, Yba.ntmps16
  go_wp2
  go_ret
  exact ⟨rfl, rfl⟩

set_option maxHeartbeats 400000 in
theorem sec_any (p : Nat) (x s : Int) (w : World) (hc : w.cell? ⟨p, 0, none⟩ = some (.int .u64 x)) (hs : w.cell? ⟨p, 1, none⟩ = some (.int .i64 s)) (h0 : 0 ≤ x) (h1 : x < 1000000000) :
    Calls Yba.prog 15 #[.pointer (some ⟨p, 0, none⟩)] w fun e w' => e = .returned (.int .i64 s) ∧ w' = w := by
  have b1 := and_high x h0 (by omega)
  go_enter Yba.func15, Yba.ntmps15
  go_wp2
  go_ret
  exact ⟨rfl, rfl⟩

/-- two times, no monotonic reading: the worlds behind After and Before -/
def two (w : World) (x s y r : Int) : World := (w.alloc (.cells #[.int .u64 x, .int .i64 s, .pointer none] 39)).alloc (.cells #[.int .u64 y, .int .i64 r, .pointer none] 39)

theorem two_below (w : World) (x s y r : Int) : Below w.heap.size w (two w x s y r) := ((Below.refl _ _).alloc (Nat.le_refl _) _).alloc (by simp) _

set_option maxHeartbeats 400000 in
theorem after_yes (x s y r : Int) (w : World) (h0 : 0 ≤ x) (h1 : x < 1000000000) (g0 : 0 ≤ y) (g1 : y < 1000000000) (h : r < s ∨ (s = r ∧ y < x)) :
    Calls Yba.prog 13 #[.agg #[.int .u64 x, .int .i64 s, .pointer none], .agg #[.int .u64 y, .int .i64 r, .pointer none]] w fun e w' => e = .returned (.bool true) ∧ w' = two w x s y r := by
  obtain ⟨b1, b2⟩ := and_both x y h0 (by omega) g0 (by omega)
  have b3 := and_high _ b1 b2
  have b4 := and_high x h0 (by omega)
  have b5 := and_high y g0 (by omega)
  have b6 := and_mask x h0 (by omega)
  have b7 := and_mask y g0 (by omega)
  clear b1 b2
  rcases h with h2 | ⟨h2, h3⟩
  · have f1 : decide (r < s) = true := decide_eq_true h2
    go_enter Yba.func13, Yba.ntmps13
    go_wp2
    go_ret
    exact ⟨rfl, rfl⟩
  · subst h2
    have f1 : decide (y < x) = true := decide_eq_true h3
    go_enter Yba.func13, Yba.ntmps13
    go_wp2
    go_ret
    exact ⟨rfl, rfl⟩

set_option maxHeartbeats 400000 in
theorem after_no (x s y r : Int) (w : World) (h0 : 0 ≤ x) (h1 : x < 1000000000) (g0 : 0 ≤ y) (g1 : y < 1000000000) (h : ¬ (r < s ∨ (s = r ∧ y < x))) :
    Calls Yba.prog 13 #[.agg #[.int .u64 x, .int .i64 s, .pointer none], .agg #[.int .u64 y, .int .i64 r, .pointer none]] w fun e w' => e = .returned (.bool false) ∧ w' = two w x s y r := by
  obtain ⟨b1, b2⟩ := and_both x y h0 (by omega) g0 (by omega)
  have b3 := and_high _ b1 b2
  have b4 := and_high x h0 (by omega)
  have b5 := and_high y g0 (by omega)
  have b6 := and_mask x h0 (by omega)
  have b7 := and_mask y g0 (by omega)
  clear b1 b2
  rcases (show s < r ∨ (s = r ∧ x ≤ y) by omega) with h2 | ⟨h2, h3⟩
  · have f1 : decide (r < s) = false := decide_eq_false (by omega)
    have f2 : (s == r) = false := by simp; omega
    clear h
    go_enter Yba.func13, Yba.ntmps13
    go_wp2
    go_ret
    exact ⟨rfl, rfl⟩
  · subst h2
    have f1 : decide (y < x) = false := decide_eq_false (by omega)
    clear h
    go_enter Yba.func13, Yba.ntmps13
    go_wp2
    go_ret
    exact ⟨rfl, rfl⟩

set_option maxHeartbeats 400000 in
theorem before_no (x s y r : Int) (w : World) (h0 : 0 ≤ x) (h1 : x < 1000000000) (g0 : 0 ≤ y) (g1 : y < 1000000000) (h : ¬ (s < r ∨ (s = r ∧ x < y))) :
    Calls Yba.prog 10 #[.agg #[.int .u64 x, .int .i64 s, .pointer none], .agg #[.int .u64 y, .int .i64 r, .pointer none]] w fun e w' => e = .returned (.bool false) ∧ w' = two w x s y r := by
  obtain ⟨b1, b2⟩ := and_both x y h0 (by omega) g0 (by omega)
  have b3 := and_high _ b1 b2
  have b4 := and_high x h0 (by omega)
  have b5 := and_high y g0 (by omega)
  have b6 := and_mask x h0 (by omega)
  have b7 := and_mask y g0 (by omega)
  clear b1 b2
  rcases (show r < s ∨ (s = r ∧ y ≤ x) by omega) with h2 | ⟨h2, h3⟩
  · have f1 : decide (s < r) = false := decide_eq_false (by omega)
    have f2 : (s == r) = false := by simp; omega
    clear h
    go_enter Yba.func10, Yba.ntmps10
    go_wp2
    go_ret
    exact ⟨rfl, rfl⟩
  · subst h2
    have f1 : decide (x < y) = false := decide_eq_false (by omega)
    clear h
    go_enter Yba.func10, Yba.ntmps10
    go_wp2
    go_ret
    exact ⟨rfl, rfl⟩

end Go.Proofs.Ybulkcbyy
