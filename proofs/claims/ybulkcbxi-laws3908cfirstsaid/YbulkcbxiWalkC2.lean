/- LawS3908CFirst: zzs3908cmembers (function 9). -/
import Derived.Test.YbulkcbxiWalkC1
namespace Go.Proofs.Ybulkcbxi
open Go.RowKit

theorem Yba.info38 : (Yba.prog.info? 38).map (fun i => (i.zero, i.size, i.bytes)) = some (some (.agg #[.string ⟨#[]⟩, .int .u8 0, .string ⟨#[]⟩, .slice none 0 0]), 4, 64) := by kernel_rfl

set_option maxHeartbeats 400000 in
theorem members_core (b off len cap : Nat) (zs : List Int) (w : World) (hlen : len ≤ 300)
    (hcell : ∀ i, i < len → w.cell? ⟨b, off + i, none⟩ = some (.int .u8 (zs.getD i 0))) (hz : ∀ j : Nat, 0 ≤ zs.getD j 0 ∧ zs.getD j 0 ≤ 255) (hbw : 0 < len → b < w.heap.size) :
    Calls Yba.prog 9 #[.slice (some ⟨b, off, none⟩) len cap] w fun e w' => e = .returned (.slice (some ⟨w.heap.size, 0, none⟩) len len) ∧ w'.ownsRow w.heap.size 38 4 (.slice (some ⟨w.heap.size, 0, none⟩) len len) len (MC zs len) ∧ Below w.heap.size w w' := by
  obtain ⟨i0, hi, hz0, hz1, hz2⟩ := info_parts Yba.info38
  go_enter Yba.func9, Yba.ntmps9
  go_wp2_with (at_make; refine wpList_make_own _ rfl _ _ 28 rfl w.heap.size 38 i0 _ 4 Yba.underlying28 hi hz0 hz1 _ _ _ len rfl rfl (by omega) (by rw [hz2]; omega) (by unfold maxLen; omega) (Nat.le_refl _) ?_; intro w1 hown1 hgr1)
  have hb1 : Below w.heap.size w w1 := (Below.refl _ _).grown hgr1 (Nat.le_refl _) (by intro k hk; cases hk)
  clear hgr1
  go_loopw [3, 4] (fun v i wr => ∃ k : Nat, k ≤ len ∧ i = .int .i64 k ∧ v = .slice (some ⟨w.heap.size, 0, none⟩) k len ∧ wr.ownsRow w.heap.size 38 4 (.slice (some ⟨w.heap.size, 0, none⟩) k len) k (MC zs k) ∧ Below w.heap.size w wr)
    (fun _ i _ => len - (intOf i).toNat)
  case atStart => exact ⟨0, Nat.zero_le _, rfl, rfl, hown1, hb1⟩
  case round =>
    obtain ⟨k, hk, rfl, rfl, hown, hb⟩ := hrel
    clear hown1 hb1
    by_cases hlt : k < len
    · obtain ⟨z, hzz⟩ : ∃ z, z = zs.getD k 0 := ⟨_, rfl⟩
      have hc : wr.cell? ⟨b, off + k, none⟩ = some (.int .u8 z) := by
        rw [hb.cell (p := ⟨b, off + k, none⟩) (hbw (by omega)), hzz]; exact hcell k hlt
      have hzb := hz k
      rw [← hzz] at hzb
      obtain ⟨q1, q2⟩ := hzb
      have HZ : Hid (z = zs.getD k 0) := hzz
      clear hzz
      go_wp2_with (first | (go_at_call 12; refine (name_any _ _ q1 q2).mono ?_; rintro e w' ⟨rfl, rfl⟩) | (go_at_call 13; refine (repeat_any k _ (by omega)).mono ?_; rintro e w2 ⟨rfl, hbr⟩) | (at_builtin; refine wpList_append_fits _ rfl _ _ 28 rfl w.heap.size 38 i0 4 Yba.underlying28 hi hz1 w.heap.size k len (MC zs k) rfl ((owns_below hown hbr).alloc _) ⟨w2.heap.size, 0, none⟩ 1 1 [.string (nm z), .int .u8 4, .string (rp k), .slice none 0 0] rfl rfl ?c1 ?c2 ?c3 ?_))
      case c1 => exact ((World.ownsRow_lit (base := 0) (e := 38) (size := 4) w2 #[.string (nm z), .int .u8 4, .string (rp k), .slice none 0 0] 1 (Nat.zero_le _) (by decide) rfl).cells rfl)
      case c2 => intro u hu; simp at hu; rcases hu with rfl | rfl | rfl | rfl <;> rfl
      case c3 => omega
      · intro w3 hown2 hgr2
        have hb2 : Below w.heap.size w w3 := ((hb.trans (hbr.mono hb.size)).alloc (Nat.le_trans hb.size hbr.size) _).grown hgr2 (by have := hb.size; have := hbr.size; simp; omega) (by intro k hk; cases hk; exact Nat.le_refl _)
        have hown3 : w3.ownsRow w.heap.size 38 4 (.slice (some ⟨w.heap.size, 0, none⟩) (k + 1) len) (k + 1) (MC zs (k + 1)) := by
          unfold MC; rw [← HZ.out]; exact hown2
        clear hown2 hgr2 hown hb hc hbr
        go_wp2
        go_roundw
        case rel => exact ⟨k + 1, by omega, by go_num, rfl, hown3, hb2⟩
        case measure => simp [intOf]; omega
    · have e : k = len := by omega
      subst e
      go_wp2
      go_ret
      exact ⟨rfl, hown, hb⟩

set_option maxHeartbeats 400000 in
theorem members_empty (a0 : Option Addr) (len cap : Nat) (zs : List Int) (w : World) (hlen : len ≤ 0) :
    Calls Yba.prog 9 #[.slice a0 len cap] w fun e w' => e = .returned (.slice (some ⟨w.heap.size, 0, none⟩) len len) ∧ w'.ownsRow w.heap.size 38 4 (.slice (some ⟨w.heap.size, 0, none⟩) len len) len (MC zs len) ∧ Below w.heap.size w w' := by
  obtain ⟨i0, hi, hz0, hz1, hz2⟩ := info_parts Yba.info38
  go_enter Yba.func9, Yba.ntmps9
  go_wp2_with (at_make; refine wpList_make_own _ rfl _ _ 28 rfl w.heap.size 38 i0 _ 4 Yba.underlying28 hi hz0 hz1 _ _ _ len rfl rfl (by omega) (by rw [hz2]; omega) (by unfold maxLen; omega) (Nat.le_refl _) ?_; intro w1 hown1 hgr1)
  have hb1 : Below w.heap.size w w1 := (Below.refl _ _).grown hgr1 (Nat.le_refl _) (by intro k hk; cases hk)
  clear hgr1
  go_loopw [3, 4] (fun v i wr => ∃ k : Nat, k ≤ len ∧ i = .int .i64 k ∧ v = .slice (some ⟨w.heap.size, 0, none⟩) k len ∧ wr.ownsRow w.heap.size 38 4 (.slice (some ⟨w.heap.size, 0, none⟩) k len) k (MC zs k) ∧ Below w.heap.size w wr)
    (fun _ i _ => len - (intOf i).toNat)
  case atStart => exact ⟨0, Nat.zero_le _, rfl, rfl, hown1, hb1⟩
  case round =>
    obtain ⟨k, hk, rfl, rfl, hown, hb⟩ := hrel
    clear hown1 hb1
    · have e : k = len := by omega
      subst e
      go_wp2
      go_ret
      exact ⟨rfl, hown, hb⟩
end Go.Proofs.Ybulkcbxi
