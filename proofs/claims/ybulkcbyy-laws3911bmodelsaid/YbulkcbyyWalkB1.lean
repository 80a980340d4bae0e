/- LawS3911BModel: segment's closure (18), sort.Search at it (17), segment (11). -/
import Derived.Test.YbulkcbyyRows
import Derived.Test.YbulkcbyyPlainB
import Derived.WalkKit
import Derived.WalkSpells
import Derived.WalkLawsBesides
import Derived.Deep.QuietTactic
import Derived.BigQuiet
namespace Go.Proofs.Ybulkcbyy
open Go.RowKit PlainB

set_option maxHeartbeats 400000 in
theorem closure_any (p q g n h : Nat) (t x : Int) (w : World) (c1 : w.cell? ⟨p, 0, none⟩ = some (.slice (some ⟨g, 0, none⟩) n n)) (c2 : w.cell? ⟨q, 0, none⟩ = some (.int .i64 t))
    (c3 : w.cell? ⟨g, h, none⟩ = some (.int .i64 x)) (hn : h < n) :
    Calls Yba.prog 18 #[.int .i64 h, .pointer (some ⟨p, 0, none⟩), .pointer (some ⟨q, 0, none⟩)] w fun e w' => e = .returned (.bool (decide (t < x))) ∧ ∃ k, w' = w.drewN k := by
  have i1 : (0 : Int) ≤ (h : Int) := by omega
  have i2 : (h : Int) < (n : Int) := by omega
  go_enter Yba.func18, Yba.ntmps18
  go_wp2
  go_quiet (fail)
  go_wp2
  go_ret
  exact ⟨rfl, _, rfl⟩

theorem drewN_drewN (w : World) (a b : Nat) : (w.drewN a).drewN b = w.drewN (a + b) := by
  simp

set_option maxHeartbeats 400000 in
theorem search_any (p q g n : Nat) (t : Int) (T : Nat → Int) (w : World) (c1 : w.cell? ⟨p, 0, none⟩ = some (.slice (some ⟨g, 0, none⟩) n n)) (c2 : w.cell? ⟨q, 0, none⟩ = some (.int .i64 t))
    (c3 : ∀ j, j < n → w.cell? ⟨g, j, none⟩ = some (.int .i64 (T j))) (hn : n ≤ 1024) (hT : ∀ i, i + 1 < n → T i < T (i + 1)) :
    Calls Yba.prog 17 #[.int .i64 n, .func (.func 18) #[] #[.pointer (some ⟨p, 0, none⟩), .pointer (some ⟨q, 0, none⟩)]] w fun e w' => (∃ c : Nat, e = .returned (.int .i64 c) ∧ c ≤ n ∧ (∀ i, i < c → T i ≤ t) ∧ (∀ i, c ≤ i → i < n → t < T i)) ∧ ∃ k, w' = w.drewN k := by
  go_enter Yba.func17, Yba.ntmps17
  go_wp2
  go_loopw [5, 6, 7] (fun a b _ wr => ∃ lo hi : Nat, lo ≤ hi ∧ hi ≤ n ∧ a = .int .i64 lo ∧ b = .int .i64 hi ∧ (∀ i, i < lo → T i ≤ t) ∧ (∀ i, hi ≤ i → i < n → t < T i) ∧ ∃ k, wr = w.drewN k) (fun a b _ _ => (intOf b - intOf a).toNat)
  case atStart => exact ⟨0, n, Nat.zero_le _, Nat.le_refl _, rfl, rfl, fun i h => by omega, fun i h1 h2 => by omega, 0, rfl⟩
  case round =>
    obtain ⟨lo, hi, h1, h2, rfl, rfl, H1, H2, kq, rfl⟩ := hrel
    by_cases hlt : lo < hi
    · have HH1 : Hid (∀ i, i < lo → T i ≤ t) := H1
      have HH2 : Hid (∀ i, hi ≤ i → i < n → t < T i) := H2
      clear H1 H2
      obtain ⟨m, hm⟩ : ∃ m : Nat, (m : Int) = ((lo : Int) + (hi : Int)) / 2 := ⟨(lo + hi) / 2, by omega⟩
      have m1 : lo ≤ m := by omega
      have m2 : m < hi := by omega
      have HM : Hid ((m : Int) = ((lo : Int) + (hi : Int)) / 2) := hm
      clear hm
      have c4 := c3 m (by omega)
      obtain ⟨x, hx⟩ : ∃ x, x = T m := ⟨_, rfl⟩
      rw [← hx] at c4
      by_cases hb : t < x
      · have hd : decide (t < x) = true := decide_eq_true hb
        have H3 : Hid (∀ i, m ≤ i → i < n → t < T i) := fun i a b => by have := rises_le hT i m a b; omega
        clear hx
        go_wp2_with (go_at_call 18; rw [← HM.out]; refine (closure_any p q g n m t x (w.drewN kq) (by exact c1) (by exact c2) (by exact c4) (by omega)).mono ?_; rintro e w' ⟨rfl, kk, hw⟩; rw [drewN_drewN] at hw; subst hw)
        go_roundw
        case rel => exact ⟨lo, m, m1, by omega, rfl, rfl, HH1.out, H3.out, _, rfl⟩
        case measure => simp [intOf]; omega
      · have hd : decide (t < x) = false := decide_eq_false hb
        have H3 : Hid (∀ i, i < m + 1 → T i ≤ t) := fun i a => by have := rises_le hT m i (by omega) (by omega); omega
        clear hx
        go_wp2_with (go_at_call 18; rw [← HM.out]; refine (closure_any p q g n m t x (w.drewN kq) (by exact c1) (by exact c2) (by exact c4) (by omega)).mono ?_; rintro e w' ⟨rfl, kk, hw⟩; rw [drewN_drewN] at hw; subst hw)
        go_roundw
        case rel => exact ⟨m + 1, hi, by omega, h2, by go_num, rfl, H3.out, HH2.out, _, rfl⟩
        case measure => simp [intOf]; omega
    · go_wp2
      go_ret
      exact ⟨⟨lo, rfl, by omega, H1, fun i a b => H2 i (by omega) b⟩, kq, rfl⟩

theorem cellOld {w : World} {o1 o2 : Obj} {g j : Nat} (h : g < w.heap.size) : ((w.alloc o1).alloc o2).cell? ⟨g, j, none⟩ = w.cell? ⟨g, j, none⟩ :=
  (((Below.refl w.heap.size w).alloc (Nat.le_refl _) o1).alloc (by simp) o2).cell (p := ⟨g, j, none⟩) h
theorem cellA (w : World) (v u : Value) : ((w.alloc (.cells #[v] 24)).alloc (.cells #[u] 2)).cell? ⟨w.heap.size, 0, none⟩ = some v := by simp
theorem cellB (w : World) (v u : Value) : ((w.alloc (.cells #[v] 24)).alloc (.cells #[u] 2)).cell? ⟨w.heap.size + 1, 0, none⟩ = some u := by simp

set_option maxHeartbeats 400000 in
theorem segment_any (g n : Nat) (t : Int) (T : Nat → Int) (w : World) (hgw : g < w.heap.size)
    (c3 : ∀ j, j < n → w.cell? ⟨g, j, none⟩ = some (.int .i64 (T j))) (hn : n ≤ 1024) (hT : ∀ i, i + 1 < n → T i < T (i + 1)) :
    Calls Yba.prog 11 #[.slice (some ⟨g, 0, none⟩) n n, .int .i64 t] w fun e w' => (∃ c : Nat, e = .returned (.int .i64 ((c : Int) - 1)) ∧ c ≤ n ∧ (∀ i, i < c → T i ≤ t) ∧ (∀ i, c ≤ i → i < n → t < T i)) ∧ Below w.heap.size w w' := by
  go_enter Yba.func11, Yba.ntmps11
  go_wp2_with (go_at_call 17; refine (search_any w.heap.size (w.heap.size + 1) g n t T _ (cellA _ _ _) (cellB _ _ _) (fun j hj => (cellOld hgw).trans (c3 j hj)) hn hT).mono ?_; rintro e w' ⟨⟨c, rfl, hc, h1, h2⟩, kk, rfl⟩)
  go_ret
  exact ⟨⟨c, rfl, hc, h1, h2⟩, below_drewN (((Below.refl _ _).alloc (Nat.le_refl _) _).alloc (by simp) _) _⟩
end Go.Proofs.Ybulkcbyy
