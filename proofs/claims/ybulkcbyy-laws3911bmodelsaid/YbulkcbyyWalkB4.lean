/- LawS3911BModel: no segments (function 3 at an empty slice). -/
import Derived.Test.YbulkcbyyWalkB3
namespace Go.Proofs.Ybulkcbyy
open Go.RowKit PlainB

set_option maxRecDepth 20000 in
set_option maxHeartbeats 1000000 in
theorem lawB_empty (base : Int) (a0 : Option Addr) (n cap : Nat) (t pick d : Int) (w : World) (hn : n ≤ 0)
    (hb1 : -2147483648 ≤ base) (hb2 : base ≤ 2147483647) (t1 : -9223372036854775808 ≤ t) (t2 : t ≤ 9223372036854775807) :
    Calls Yba.prog 3 #[.int .i32 base, .slice a0 n cap, .int .i64 t, .int .u8 pick, .int .i16 d] w fun e w' => e = .returned (.bool true) ∧ Below w.heap.size w w' := by
  obtain ⟨i2, hi2, z20, z21, z22⟩ := info_parts Yba.info2
  obtain ⟨i4, hi4, z40, z41, z42⟩ := info_parts Yba.info4
  have hg1 : decide ((1024 : Int) < (n : Int)) = false := decide_eq_false (by omega)
  have hF : Fine n (Tf base fun _ => 0) (Cf (fun _ => false) n) := fine_of (by omega) hb1 hb2 (fun i h => by omega)
  generalize (Tf base fun _ => 0) = T at hF
  generalize Cf (fun _ => false) n = C at hF
  go_enter Yba.func3, Yba.ntmps3
  go_wp2_with (first | (at_make; refine wpList_make_full _ rfl (.tmp 24) (.tmp 24) 24 rfl w.heap.size 2 i2 (.int .i64 0) 1 Yba.underlying24 hi2 z20 z21 .i64 .i64 (n : Int) (n : Int) n (by rfl) (by rfl) rfl rfl (by rw [z22]; omega) (by unfold maxLen; omega) (Nat.le_refl _) ?_; intro w1 hown1 hgr1) | (at_make; refine wpList_make_full _ rfl (.tmp 26) (.tmp 26) 25 rfl w1.heap.size 4 i4 (.bool false) 1 Yba.underlying25 hi4 z40 z41 .i64 .i64 (n : Int) (n : Int) n (by rfl) (by rfl) rfl rfl (by rw [z42]; omega) (by unfold maxLen; omega) (Nat.le_refl _) ?_; intro w2 hown2 hgr2) | (at_make; refine wpList_make_full _ rfl (.tmp 28) (.tmp 28) 24 rfl w2.heap.size 2 i2 (.int .i64 0) 1 Yba.underlying24 hi2 z20 z21 .i64 .i64 (n : Int) (n : Int) n (by rfl) (by rfl) rfl rfl (by rw [z22]; omega) (by unfold maxLen; omega) (Nat.le_refl _) ?_; intro w3 hown3 hgr3))
  have B1 : Below w.heap.size w w1 := (Below.refl _ _).grown hgr1 (Nat.le_refl _) (by intro k hk; cases hk)
  have B2 : Below w1.heap.size w1 w2 := (Below.refl _ _).grown hgr2 (Nat.le_refl _) (by intro k hk; cases hk)
  have B3 : Below w2.heap.size w2 w3 := (Below.refl _ _).grown hgr3 (Nat.le_refl _) (by intro k hk; cases hk)
  have R0 := ((Row.make rfl hown1).below B2).below B3
  have R1 := (Row.make rfl hown2).below B3
  have R2 := Row.make rfl hown3
  have L0 : w.heap.size < w1.heap.size := (hown1.lt _ rfl).2
  have L1 : w1.heap.size < w2.heap.size := (hown2.lt _ rfl).2
  have B : Below w.heap.size w w3 := (B1.trans (B2.mono (by omega))).trans (B3.mono (by omega))
  clear hown1 hown2 hown3 hgr1 hgr2 hgr3 B1 B2 B3
  go_loopw [15] (fun i wr => i = .int .i64 0 ∧ wr = w3) (fun _ _ => 0)
  case atStart => exact ⟨rfl, rfl⟩
  case round =>
    obtain ⟨rfl, rfl⟩ := hrel
    go_wp2
    go_loopw [16] (fun i ws => i = .int .i64 1 ∧ ws = wr) (fun _ _ => 0)
    case atStart => exact ⟨rfl, rfl⟩
    case round =>
      rename_i ws
      obtain ⟨rfl, rfl⟩ := hrel
      have hL : Lies (wr.alloc (.cells #[.slice (some ⟨w.heap.size, 0, none⟩) n n, .slice (some ⟨w1.heap.size, 0, none⟩) n n, .slice (some ⟨w2.heap.size, 0, none⟩) n n, .slice none 0 0] 32)) wr.heap.size w.heap.size w1.heap.size w2.heap.size n T C :=
        lies_of (R0.same (fun j hj => by omega)) (R1.same (fun j hj => by omega)) (R2.same (fun j hj => by omega))
      have hB : Below w.heap.size w (wr.alloc (.cells #[.slice (some ⟨w.heap.size, 0, none⟩) n n, .slice (some ⟨w1.heap.size, 0, none⟩) n n, .slice (some ⟨w2.heap.size, 0, none⟩) n n, .slice none 0 0] 32)) := B.alloc B.size _
      clear R0 R1 R2 B
      go_wp2_with fail
      refine (covered_any wr.heap.size w.heap.size w1.heap.size w2.heap.size n t T C _ hL hF t1 t2).mono ?_
      rintro e w4 ⟨rfl, hb4⟩
      have hL4 := hL.later hb4
      have hB4 : Below w.heap.size w w4 := hB.trans (hb4.mono hB.size)
      clear hb4 hB hL
      generalize wr.heap.size = p at *
      go_wp2_with (go_at_call 7; refine (model_any w.heap.size w1.heap.size n t T C _ hL4.t hL4.c hF t1 t2).mono ?_; rintro e w5 ⟨rfl, kq, rfl⟩)
      go_ret
      exact ⟨rfl, below_drewN hB4 _⟩
end Go.Proofs.Ybulkcbyy
