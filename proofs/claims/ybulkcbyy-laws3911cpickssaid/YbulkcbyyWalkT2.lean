/- (time.Time).Add at the zero time (12), zzs3911cat (8). -/
import Derived.Test.YbulkcbyyWalkT1
namespace Go.Proofs.Ybulkcbyy
open Go.RowKit

set_option maxHeartbeats 400000 in
theorem addSec_any (p : Nat) (x d : Int) (w : World) (c0 : w.cell? ⟨p, 0, none⟩ = some (.int .u64 x)) (c1 : w.cell? ⟨p, 1, none⟩ = some (.int .i64 0)) (f1 : w.frozen? ⟨p, 1, none⟩ = false) (h0 : 0 ≤ x) (h1 : x < 1000000000)
    (d1 : -9223372036854775808 ≤ d) (d2 : d ≤ 9223372036854775807) :
    Calls Yba.prog 19 #[.pointer (some ⟨p, 0, none⟩), .int .i64 d] w fun e w' => e = .returned (.tuple #[]) ∧ w' = w.setCell ⟨p, 1, none⟩ (.int .i64 d) := by
  have b4 := and_high x h0 (by omega)
  by_cases hd : 0 < d
  · have f2 : decide (0 < d) = true := decide_eq_true hd
    go_enter Yba.func19, Yba.ntmps19
    go_wp2
    go_end0
    exact ⟨rfl, rfl⟩
  · have f2 : decide (0 < d) = false := decide_eq_false hd
    go_enter Yba.func19, Yba.ntmps19
    go_wp2
    go_end0
    exact ⟨rfl, rfl⟩

set_option maxHeartbeats 400000 in
theorem add_pos (n : Int) (w : World) (t1 : 0 ≤ n) (t2 : n ≤ 9223372036854775807) :
    Calls Yba.prog 12 #[.agg #[.int .u64 0, .int .i64 0, .pointer none], .int .i64 n] w fun e w' => e = .returned (.agg #[.int .u64 (n % 1000000000), .int .i64 (n / 1000000000), .pointer none]) ∧ w' = two w (n % 1000000000) (n / 1000000000) (n % 1000000000) (n / 1000000000) := by
  have b0 := andNot_zero
  have b1 := or_zero (n % 1000000000) (by omega) (by omega)
  have b2 := and_high (n % 1000000000) (by omega) (by omega)
  go_enter Yba.func12, Yba.ntmps12
  go_wp2_with (first | (go_at_call 16; refine (nsec_any _ 0 _ ?_ (by omega) (by omega)).mono ?_; (simp); rintro e w' ⟨rfl, rfl⟩) | (go_at_call 19; refine (addSec_any _ (n % 1000000000) (n / 1000000000) _ ?_ ?_ ?_ (by omega) (by omega) (by omega) (by omega)).mono ?_; (simp); (simp); (simp); rintro e w' ⟨rfl, rfl⟩))
  refine bodyPost_ret (v := .agg #[.int .u64 (n % 1000000000), .int .i64 (n / 1000000000), .pointer none]) (by simp [results, Yba.results12, go_sem]) rfl ⟨rfl, rfl⟩

set_option maxHeartbeats 400000 in
theorem add_neg (n : Int) (w : World) (t1 : n < 0) (t2 : -9223372036854775808 ≤ n) :
    Calls Yba.prog 12 #[.agg #[.int .u64 0, .int .i64 0, .pointer none], .int .i64 n] w fun e w' => e = .returned (.agg #[.int .u64 (n % 1000000000), .int .i64 (n / 1000000000), .pointer none]) ∧ w' = two w (n % 1000000000) (n / 1000000000) (n % 1000000000) (n / 1000000000) := by
  have b0 := andNot_zero
  obtain ⟨q, hq⟩ : ∃ q, n.tdiv 1000000000 = q := ⟨_, rfl⟩
  obtain ⟨m, hm⟩ : ∃ m, n.tmod 1000000000 = m := ⟨_, rfl⟩
  have hnm : n = 1000000000 * q + m := by rw [← hq, ← hm]; exact (Int.mul_tdiv_add_tmod n 1000000000).symm
  have m1 : -1000000000 < m := by rw [← hm]; exact Int.lt_tmod_of_pos n (by omega)
  have m2 : m ≤ 0 := by
    have h1 := Int.tmod_nonneg 1000000000 (show 0 ≤ -n by omega)
    rw [Int.neg_tmod, hm] at h1
    omega
  have q1 : -9223372037 ≤ q := by omega
  have q2 : q ≤ 0 := by omega
  by_cases hz : m < 0
  · have e1 : n % 1000000000 = m + 1000000000 := by omega
    have e2 : n / 1000000000 = q - 1 := by omega
    rw [e1, e2]
    have b1 := or_zero (m + 1000000000) (by omega) (by omega)
    have b2 := and_high (m + 1000000000) (by omega) (by omega)
    clear hnm e1 e2
    go_enter Yba.func12, Yba.ntmps12
    go_wp2_with (first | (go_at_call 16; refine (nsec_any _ 0 _ ?_ (by omega) (by omega)).mono ?_; (simp); rintro e w' ⟨rfl, rfl⟩) | (go_at_call 19; refine (addSec_any _ (m + 1000000000) (q - 1) _ ?_ ?_ ?_ (by omega) (by omega) (by omega) (by omega)).mono ?_; (simp); (simp); (simp); rintro e w' ⟨rfl, rfl⟩))
    refine bodyPost_ret (v := .agg #[.int .u64 (m + 1000000000), .int .i64 (q - 1), .pointer none]) (by simp [results, Yba.results12, go_sem]) rfl ⟨rfl, rfl⟩
  · have e0 : m = 0 := by omega
    subst e0
    have e1 : n % 1000000000 = 0 := by omega
    have e2 : n / 1000000000 = q := by omega
    rw [e1, e2]
    have b1 := or_zero 0 (by omega) (by omega)
    have b2 := and_high 0 (by omega) (by omega)
    clear hnm e1 e2
    go_enter Yba.func12, Yba.ntmps12
    go_wp2_with (first | (go_at_call 16; refine (nsec_any _ 0 _ ?_ (by omega) (by omega)).mono ?_; (simp); rintro e w' ⟨rfl, rfl⟩) | (go_at_call 19; refine (addSec_any _ 0 q _ ?_ ?_ ?_ (by omega) (by omega) (by omega) (by omega)).mono ?_; (simp); (simp); (simp); rintro e w' ⟨rfl, rfl⟩))
    refine bodyPost_ret (v := .agg #[.int .u64 0, .int .i64 q, .pointer none]) (by simp [results, Yba.results12, go_sem]) rfl ⟨rfl, rfl⟩

theorem add_any (n : Int) (w : World) (t1 : -9223372036854775808 ≤ n) (t2 : n ≤ 9223372036854775807) :
    Calls Yba.prog 12 #[.agg #[.int .u64 0, .int .i64 0, .pointer none], .int .i64 n] w fun e w' => e = .returned (.agg #[.int .u64 (n % 1000000000), .int .i64 (n / 1000000000), .pointer none]) ∧ w' = two w (n % 1000000000) (n / 1000000000) (n % 1000000000) (n / 1000000000) := by
  by_cases h : 0 ≤ n
  · exact add_pos n w h t2
  · exact add_neg n w (by omega) t1

set_option maxHeartbeats 400000 in
theorem at_any (n : Int) (w : World) (t1 : -9223372036854775808 ≤ n) (t2 : n ≤ 9223372036854775807) :
    Calls Yba.prog 8 #[.int .i64 n] w fun e w' => e = .returned (.agg #[.int .u64 (n % 1000000000), .int .i64 (n / 1000000000), .pointer none]) ∧ Below w.heap.size w w' := by
  obtain ⟨x, hx⟩ : ∃ x, x = n % 1000000000 := ⟨_, rfl⟩
  obtain ⟨s, hs⟩ : ∃ s, s = n / 1000000000 := ⟨_, rfl⟩
  have HA : Hid (∀ w, Calls Yba.prog 12 #[.agg #[.int .u64 0, .int .i64 0, .pointer none], .int .i64 n] w fun e w' => e = .returned (.agg #[.int .u64 x, .int .i64 s, .pointer none]) ∧ w' = (w.alloc (.cells #[.int .u64 x, .int .i64 s, .pointer none] 39)).alloc (.cells #[.int .u64 x, .int .i64 s, .pointer none] 39)) := by
    intro w; rw [hx, hs]; exact add_any n w t1 t2
  rw [← hx, ← hs]
  clear hx hs
  go_enter Yba.func8, Yba.ntmps8
  go_wp2_with (go_at_call 12; refine (HA.out _).mono ?_; rintro e w1 ⟨rfl, rfl⟩)
  refine bodyPost_ret (v := .agg #[.int .u64 x, .int .i64 s, .pointer none]) (by simp [results, Yba.results8, go_sem]) rfl ⟨rfl, ?_⟩
  exact (((Below.refl _ _).alloc (Nat.le_refl _) _).alloc (by simp) _).alloc (by simp; omega) _
end Go.Proofs.Ybulkcbyy
