/- LawS3911BModel: coveredTime (6), the law's own model (7). -/
import Derived.Test.YbulkcbyyWalkB1
namespace Go.Proofs.Ybulkcbyy
open Go.RowKit PlainB

/-- the curve lies in memory: its struct at block p, its rows at g0, g1, g2 -/
structure Lies (w : World) (p g0 g1 g2 n : Nat) (T : Nat → Int) (C : Nat → Bool) : Prop where
  f0 : w.cell? ⟨p, 0, none⟩ = some (.slice (some ⟨g0, 0, none⟩) n n)
  f1 : w.cell? ⟨p, 1, none⟩ = some (.slice (some ⟨g1, 0, none⟩) n n)
  f2 : w.cell? ⟨p, 2, none⟩ = some (.slice (some ⟨g2, 0, none⟩) n n)
  t : ∀ j, j < n → w.cell? ⟨g0, j, none⟩ = some (.int .i64 (T j))
  c : ∀ j, j < n → w.cell? ⟨g1, j, none⟩ = some (.bool (C j))
  b : ∀ j, j < n → w.cell? ⟨g2, j, none⟩ = some (.int .i64 (CBf T C j))
  lp : p < w.heap.size
  l0 : g0 < w.heap.size
  l1 : g1 < w.heap.size
  l2 : g2 < w.heap.size

theorem Lies.later {w w' : World} {p g0 g1 g2 n : Nat} {T : Nat → Int} {C : Nat → Bool} (h : Lies w p g0 g1 g2 n T C) (hb : Below w.heap.size w w') : Lies w' p g0 g1 g2 n T C :=
  ⟨(hb.cell (p := ⟨p, 0, none⟩) h.lp).trans h.f0, (hb.cell (p := ⟨p, 1, none⟩) h.lp).trans h.f1, (hb.cell (p := ⟨p, 2, none⟩) h.lp).trans h.f2,
   fun j hj => (hb.cell (p := ⟨g0, j, none⟩) h.l0).trans (h.t j hj), fun j hj => (hb.cell (p := ⟨g1, j, none⟩) h.l1).trans (h.c j hj), fun j hj => (hb.cell (p := ⟨g2, j, none⟩) h.l2).trans (h.b j hj),
   Nat.lt_of_lt_of_le h.lp hb.size, Nat.lt_of_lt_of_le h.l0 hb.size, Nat.lt_of_lt_of_le h.l1 hb.size, Nat.lt_of_lt_of_le h.l2 hb.size⟩

/-- what is asked of the numbers -/
structure Fine (n : Nat) (T : Nat → Int) (C : Nat → Bool) : Prop where
  few : n ≤ 1024
  up : ∀ i, i + 1 < n → T i < T (i + 1)
  last : ∀ i, i + 1 = n → C i = false
  bd : ∀ i, i < n → -8589934592 ≤ T i ∧ T i ≤ 8589934592

theorem ret_int {k : IntKind} {a b : Int} (h : a = b) : Ending.returned (.int k a) = .returned (.int k b) := by rw [h]

set_option maxHeartbeats 400000 in
theorem covered_any (p g0 g1 g2 n : Nat) (t : Int) (T : Nat → Int) (C : Nat → Bool) (w : World) (hl : Lies w p g0 g1 g2 n T C) (hf : Fine n T C) (t1 : -9223372036854775808 ≤ t) (t2 : t ≤ 9223372036854775807) :
    Calls Yba.prog 6 #[.pointer (some ⟨p, 0, none⟩), .int .i64 t] w fun e w' => e = .returned (.int .i64 (Mf T C t (n - 1))) ∧ Below w.heap.size w w' := by
  have c0 := hl.f0
  go_enter Yba.func6, Yba.ntmps6
  go_wp2_with fail
  refine (segment_any g0 n t T w hl.l0 hl.t hf.few hf.up).mono ?_
  rintro e w1 ⟨⟨c, rfl, hc, h1, h2⟩, hb⟩
  have law := the_law hf.up hf.last hc h1 h2
  have hl1 := hl.later hb
  have r0 := hl1.f0
  have r1 := hl1.f1
  have r2 := hl1.f2
  clear c0
  by_cases hc0 : c = 0
  · subst hc0
    have hm : (0 : Int) = Mf T C t (n - 1) := law
    have HM : Hid ((0 : Int) = Mf T C t (n - 1)) := hm
    clear law hm h1 h2
    go_wp2
    go_ret
    exact ⟨ret_int HM.out, hb⟩
  · obtain ⟨i, rfl⟩ : ∃ i, c = i + 1 := ⟨c - 1, by omega⟩
    have e : ((i + 1 : Nat) : Int) - 1 = (i : Int) := by omega
    rw [e]
    have q0 := hl1.t i (by omega)
    have q1 := hl1.c i (by omega)
    have q2 := hl1.b i (by omega)
    have i1 : (0 : Int) ≤ (i : Int) := by omega
    have i2 : (i : Int) < (n : Int) := by omega
    have hin : i < n := by omega
    have hcb := CBf_bounds (C := C) hf.up i hin
    have hb0 := hf.bd i hin
    have hb1 := hf.bd 0 (by omega)
    have u1 := h1 i (by omega)
    obtain ⟨x, hx⟩ : ∃ x, x = T i := ⟨_, rfl⟩
    obtain ⟨y, hy⟩ : ∃ y, y = CBf T C i := ⟨_, rfl⟩
    have law2 : Mf T C t (n - 1) = if C i = true then CBf T C i + t - T i else CBf T C i := law.symm
    rw [← hx, ← hy] at law2
    rw [← hx] at q0 hb0 u1 hcb
    rw [← hy] at q2 hcb
    by_cases hC : C i = true
    · have hn : i + 1 < n := by
        by_cases e2 : i + 1 = n
        · have := hf.last i e2; rw [hC] at this; cases this
        · omega
      have u2 := h2 (i + 1) (Nat.le_refl _) hn
      have hb2 := hf.bd (i + 1) hn
      rw [if_pos hC] at law2
      rw [hC] at q1
      have LAW : Hid (Mf T C t (n - 1) = y + t - x) := law2
      have u3 : t ≤ 8589934592 := by omega
      have u4 : -8589934592 ≤ t := by omega
      have u5 : 0 ≤ y := hcb.1
      have u6 : y ≤ 17179869184 := by omega
      have u7 : -8589934592 ≤ x := hb0.1
      have u8 : x ≤ 8589934592 := hb0.2
      clear law law2 hx hy hb2 hcb hb0 hb1 h1 h2 u2 hC e
      go_wp2
      go_quiet (fail)
      go_wp2
      go_ret
      exact ⟨ret_int LAW.out.symm, below_drewN hb _⟩
    · rw [if_neg hC] at law2
      have hC' : C i = false := by simpa using hC
      rw [hC'] at q1
      have LAW : Hid (Mf T C t (n - 1) = y) := law2
      clear law law2 hx hy hcb hb0 hb1 h1 h2 hC hC' e
      go_wp2
      go_ret
      exact ⟨ret_int LAW.out.symm, hb⟩

theorem Mf_add {T : Nat → Int} {C : Nat → Bool} {t : Int} {k : Nat} (h1 : C k = true) (h2 : T k < t) : Mf T C t (k + 1) = Mf T C t k + (min t (T (k + 1)) - T k) := by
  simp only [Mf]; rw [if_pos ⟨h1, h2⟩]
theorem Mf_same {T : Nat → Int} {C : Nat → Bool} {t : Int} {k : Nat} (h : ¬ (C k = true ∧ T k < t)) : Mf T C t (k + 1) = Mf T C t k := by
  simp only [Mf]; rw [if_neg h]; omega

set_option maxHeartbeats 400000 in
theorem model_any (g0 g1 n : Nat) (t : Int) (T : Nat → Int) (C : Nat → Bool) (w : World) (ht : ∀ j, j < n → w.cell? ⟨g0, j, none⟩ = some (.int .i64 (T j))) (hc : ∀ j, j < n → w.cell? ⟨g1, j, none⟩ = some (.bool (C j)))
    (hf : Fine n T C) (t1 : -9223372036854775808 ≤ t) (t2 : t ≤ 9223372036854775807) :
    Calls Yba.prog 7 #[.slice (some ⟨g0, 0, none⟩) n n, .slice (some ⟨g1, 0, none⟩) n n, .int .i64 t] w fun e w' => e = .returned (.int .i64 (Mf T C t (n - 1))) ∧ ∃ k, w' = w.drewN k := by
  have hfew := hf.few
  go_enter Yba.func7, Yba.ntmps7
  go_wp2
  go_loopw [7, 8] (fun s i wr => ∃ k : Nat, k ≤ n - 1 ∧ i = .int .i64 k ∧ s = .int .i64 (Mf T C t k) ∧ ∃ q, wr = w.drewN q) (fun _ i _ => n - (intOf i).toNat)
  case atStart => exact ⟨0, Nat.zero_le _, rfl, rfl, 0, rfl⟩
  case round =>
    obtain ⟨k, hk, rfl, rfl, q, rfl⟩ := hrel
    by_cases hlt : k + 1 < n
    · have i0 : (0 : Int) ≤ (k : Int) := by omega
      have i1 : (k : Int) < (n : Int) := by omega
      have i2 : (k : Int) + 1 < (n : Int) := by omega
      have c0 := ht k (by omega)
      have c1 := ht (k + 1) hlt
      have c2 := hc k (by omega)
      have mb := Mf_bounds (C := C) t hf.up k (by omega)
      have b0 := hf.bd k (by omega)
      have b1 := hf.bd (k + 1) hlt
      have b2 := hf.bd 0 (by omega)
      obtain ⟨s, hs⟩ : ∃ s, s = Mf T C t k := ⟨_, rfl⟩
      rw [← hs] at mb ⊢
      obtain ⟨y, hy⟩ : ∃ y, y = T (k + 1) := ⟨_, rfl⟩
      rw [← hy] at c1 b1
      by_cases hC : C k = true
      · rw [hC] at c2
        by_cases hT : T k < t
        · have hsum := Mf_add hC hT
          obtain ⟨x, hx⟩ : ∃ x, x = T k := ⟨_, rfl⟩
          rw [← hx] at c0 b0 hT mb
          rw [← hs, ← hx, ← hy] at hsum
          have HS : Hid (Mf T C t (k + 1) = s + (min t y - x)) := hsum
          have v1 : 0 ≤ s := mb.1
          have v2 : s ≤ 17179869184 := by omega
          have v3 : -8589934592 ≤ x := b0.1
          have v4 : x ≤ 8589934592 := b0.2
          have v5 : -8589934592 ≤ y := b1.1
          have v6 : y ≤ 8589934592 := b1.2
          clear hsum hx hy hs mb b0 b1 b2 hC ht hc
          by_cases hty : t ≤ y
          · have e : min t y = t := by omega
            go_wp2
            go_quiet (fail)
            go_wp2
            go_roundw
            case rel => exact ⟨k + 1, by omega, by go_num, by rw [HS.out, e], _, rfl⟩
            case measure => simp [intOf]; omega
          · have e : min t y = y := by omega
            go_wp2
            go_quiet (fail)
            go_wp2
            go_roundw
            case rel => exact ⟨k + 1, by omega, by go_num, by rw [HS.out, e], _, rfl⟩
            case measure => simp [intOf]; omega
        · have hsum := Mf_same (T := T) (C := C) (t := t) (k := k) (fun h => hT h.2)
          obtain ⟨x, hx⟩ : ∃ x, x = T k := ⟨_, rfl⟩
          rw [← hx] at c0 hT
          rw [← hs] at hsum
          have HS : Hid (Mf T C t (k + 1) = s) := hsum
          clear hsum hx hy hs mb b0 b1 b2 hC ht hc
          go_wp2
          go_roundw
          case rel => exact ⟨k + 1, by omega, by go_num, by rw [HS.out], _, rfl⟩
          case measure => simp [intOf]; omega
      · have hsum := Mf_same (T := T) (C := C) (t := t) (k := k) (fun h => hC h.1)
        rw [← hs] at hsum
        have HS : Hid (Mf T C t (k + 1) = s) := hsum
        have hC' : C k = false := by simpa using hC
        rw [hC'] at c2
        clear hsum hy hs mb b0 b1 b2 hC hC' ht hc
        go_wp2
        go_roundw
        case rel => exact ⟨k + 1, by omega, by go_num, by rw [HS.out], _, rfl⟩
        case measure => simp [intOf]; omega
    · go_wp2
      go_ret
      exact ⟨ret_int (by congr 1; omega), _, rfl⟩
end Go.Proofs.Ybulkcbyy
