/- LawS3908CFirst: (Value).Members (14), (Value).Member (11). -/
import Derived.Test.YbulkcbxiWalkC2
namespace Go.Proofs.Ybulkcbxi
open Go.RowKit

set_option maxHeartbeats 400000 in
theorem members_get (t : ByteArray) (a : Option Addr) (n c : Nat) (w : World) :
    Calls Yba.prog 14 #[.agg #[.int .u8 6, .string t, .slice a n c]] w fun e w' => e = .returned (.slice a n c) ∧ w' = w.alloc (.cells #[.int .u8 6, .string t, .slice a n c] 32) := by
  go_enter Yba.func14, Yba.ntmps14
  go_wp2
  go_ret
  exact ⟨rfl, rfl⟩

theorem res_block (w : World) (o1 o2 o3 : Obj) : (((w.alloc o1).alloc o2).alloc o3).heap[w.heap.size + 1]? = some o2 := by
  have h := Below.heap_alloc ((w.alloc o1).alloc o2) o3 (w.heap.size + 1) (by simp)
  rw [h]
  have h2 := heap_alloc_new (w.alloc o1) o2
  rw [World.size_alloc] at h2
  exact h2

set_option maxHeartbeats 400000 in
theorem member_found (B len f : Nat) (zs : List Int) (t q : ByteArray) (w : World) (hlen : len ≤ 300) (hB : B < w.heap.size)
    (hcell : ∀ k r, k < len → r < 4 → w.cell? ⟨B, k * 4 + r, none⟩ = [Value.string (nm (zs.getD k 0)), .int .u8 4, .string (rp k), .slice none 0 0][r]?)
    (hf : f < len) (hno : ∀ j, j < f → ((nm (zs.getD j 0)).toList == q.toList) = false) (hyes : ((nm (zs.getD f 0)).toList == q.toList) = true) :
    Calls Yba.prog 11 #[.agg #[.int .u8 6, .string t, .slice (some ⟨B, 0, none⟩) len len], .string q] w fun e w' =>
      e = .returned (.agg #[.int .u8 4, .string (rp f), .slice none 0 0]) ∧ Below w.heap.size w w' := by
  go_enter Yba.func11, Yba.ntmps11
  go_wp2_with (go_at_call 14; refine (members_get _ _ _ _ _).mono ?_; rintro e w' ⟨rfl, rfl⟩)
  go_loopw [6, 10] (fun p i wr => ∃ k : Nat, k ≤ f ∧ i = .int .i64 k ∧ Below w.heap.size w wr ∧ w.heap.size + 3 ≤ wr.heap.size ∧ wr.heap[w.heap.size + 1]? = some (.cells #[.int .u8 0, .string ⟨#[]⟩, .slice none 0 0] 32 (0, 0)))
    (fun _ i _ => len - (intOf i).toNat)
  case atStart => exact ⟨0, Nat.zero_le _, rfl, (((Below.refl _ _).alloc (Nat.le_refl _) _).alloc (by simp) _).alloc (by simp; omega) _, by simp, res_block _ _ _ _⟩
  case round =>
    obtain ⟨k, hk, rfl, hb, hsz, hres⟩ := hrel
    have hrow := fun r hr => (hb.cell (p := ⟨B, k * 4 + r, none⟩) hB).trans (hcell k r (by omega) hr)
    have c0 := hrow 0 (by omega)
    have c1 := hrow 1 (by omega)
    have c2 := hrow 2 (by omega)
    have c3 := hrow 3 (by omega)
    simp only [List.getElem?_cons_zero, List.getElem?_cons_succ, Nat.add_zero] at c0 c1 c2 c3
    clear hrow hcell
    by_cases hlt : k < f
    · have hn := hno k hlt
      have hkl : k < len := by omega
      obtain ⟨x, hx⟩ : ∃ x, x = nm (zs.getD k 0) := ⟨_, rfl⟩
      rw [← hx] at c0 hn
      clear hno hyes hx
      go_wp2
      go_roundw
      case rel => exact ⟨k + 1, by omega, by go_num, hb.alloc hb.size _, by simp; omega, (Below.heap_alloc _ _ _ (by omega)).trans hres⟩
      case measure => simp [intOf]; omega
    · have e : k = f := by omega
      subst e
      obtain ⟨x, hx⟩ : ∃ x, x = nm (zs.getD k 0) := ⟨_, rfl⟩
      rw [← hx] at c0 hyes
      have r0 := cell_of_row wr (w.heap.size + 1) 0 _ 32 (0, 0) hres
      have r1 := cell_of_row wr (w.heap.size + 1) 1 _ 32 (0, 0) hres
      have r2 := cell_of_row wr (w.heap.size + 1) 2 _ 32 (0, 0) hres
      have f0 := frozen_of_row wr (w.heap.size + 1) 0 _ 32 hres
      have f1 := frozen_of_row wr (w.heap.size + 1) 1 _ 32 hres
      have f2 := frozen_of_row wr (w.heap.size + 1) 2 _ 32 hres
      have hs1 : w.heap.size + 1 < wr.heap.size := by omega
      clear hno hx hres
      go_wp2
      refine bodyPost_ret (v := .agg #[.int .u8 4, .string (rp k), .slice none 0 0]) (by simp [results, Yba.results11, go_sem, r0, r1, r2, hs1]) rfl ⟨rfl, ?_⟩
      exact (((hb.setCell (by simp) _).setCell (by simp) _).setCell (by simp) _).alloc (by simp; omega) _

set_option maxHeartbeats 400000 in
theorem member_none (B len : Nat) (zs : List Int) (t q : ByteArray) (w : World) (hlen : len ≤ 300) (hB : B < w.heap.size)
    (hcell : ∀ k r, k < len → r < 4 → w.cell? ⟨B, k * 4 + r, none⟩ = [Value.string (nm (zs.getD k 0)), .int .u8 4, .string (rp k), .slice none 0 0][r]?)
    (hno : ∀ j, j < len → ((nm (zs.getD j 0)).toList == q.toList) = false) :
    Calls Yba.prog 11 #[.agg #[.int .u8 6, .string t, .slice (some ⟨B, 0, none⟩) len len], .string q] w fun e w' =>
      e = .returned (.agg #[.int .u8 0, .string ⟨#[]⟩, .slice none 0 0]) ∧ Below w.heap.size w w' := by
  go_enter Yba.func11, Yba.ntmps11
  go_wp2_with (go_at_call 14; refine (members_get _ _ _ _ _).mono ?_; rintro e w' ⟨rfl, rfl⟩)
  go_loopw [6, 10] (fun p i wr => ∃ k : Nat, k ≤ len ∧ i = .int .i64 k ∧ Below w.heap.size w wr ∧ w.heap.size + 3 ≤ wr.heap.size ∧ wr.heap[w.heap.size + 1]? = some (.cells #[.int .u8 0, .string ⟨#[]⟩, .slice none 0 0] 32 (0, 0)))
    (fun _ i _ => len - (intOf i).toNat)
  case atStart => exact ⟨0, Nat.zero_le _, rfl, (((Below.refl _ _).alloc (Nat.le_refl _) _).alloc (by simp) _).alloc (by simp; omega) _, by simp, res_block _ _ _ _⟩
  case round =>
    obtain ⟨k, hk, rfl, hb, hsz, hres⟩ := hrel
    by_cases hlt : k < len
    · have hrow := fun r hr => (hb.cell (p := ⟨B, k * 4 + r, none⟩) hB).trans (hcell k r (by omega) hr)
      have c0 := hrow 0 (by omega)
      have c1 := hrow 1 (by omega)
      have c2 := hrow 2 (by omega)
      have c3 := hrow 3 (by omega)
      simp only [List.getElem?_cons_zero, List.getElem?_cons_succ, Nat.add_zero] at c0 c1 c2 c3
      clear hrow hcell
      have hn := hno k hlt
      obtain ⟨x, hx⟩ : ∃ x, x = nm (zs.getD k 0) := ⟨_, rfl⟩
      rw [← hx] at c0 hn
      clear hno hx
      go_wp2
      go_roundw
      case rel => exact ⟨k + 1, by omega, by go_num, hb.alloc hb.size _, by simp; omega, (Below.heap_alloc _ _ _ (by omega)).trans hres⟩
      case measure => simp [intOf]; omega
    · have e : k = len := by omega
      subst e
      have r0 := cell_of_row wr (w.heap.size + 1) 0 _ 32 (0, 0) hres
      have r1 := cell_of_row wr (w.heap.size + 1) 1 _ 32 (0, 0) hres
      have r2 := cell_of_row wr (w.heap.size + 1) 2 _ 32 (0, 0) hres
      have f0 := frozen_of_row wr (w.heap.size + 1) 0 _ 32 hres
      have f1 := frozen_of_row wr (w.heap.size + 1) 1 _ 32 hres
      have f2 := frozen_of_row wr (w.heap.size + 1) 2 _ 32 hres
      have hs1 : w.heap.size + 1 < wr.heap.size := by omega
      clear hno hres hcell
      go_wp2
      refine bodyPost_ret (v := .agg #[.int .u8 0, .string ⟨#[]⟩, .slice none 0 0]) (by simp [results, Yba.results11, go_sem, r0, r1, r2]) rfl ⟨rfl, ?_⟩
      exact ((hb.setCell (by simp) _).setCell (by simp) _).setCell (by simp) _

end Go.Proofs.Ybulkcbxi
