/- The walk of LawS3908ABuilt (function 4). -/
import Derived.Test.YbulkcbxiWalkA
import Derived.Test.YbulkcbxiPlainAB
import Derived.OpenShut
namespace Go.Proofs.Ybulkcbxi
open Go.RowKit PlainA

theorem Yba.info5 : (Yba.prog.info? 5).map (fun i => (i.zero, i.size, i.bytes)) = some (some (.int .u8 0), 1, 1) := by kernel_rfl

/-- leadingDigits at what the law builds -/
theorem leading_built (pre sb t : ByteArray) (l : List UInt8) (c : UInt8) (w : World) (hp : Hid (pre = ⟨l.toArray⟩)) (hb : Hid (sb = ⟨#[c]⟩)) (hd : ∀ x ∈ l, isD x = true) (hc : isD c = false)
    (hs : (pre ++ (sb ++ t)).size ≤ maxLen) :
    Calls Yba.prog 7 #[.string (pre ++ (sb ++ t))] w fun e w' => e = .returned (.tuple #[.string pre, .string (sb ++ t)]) ∧ ∃ n, w' = w.drewN n := by
  refine (leading_any _ w hs).mono ?_
  rintro e w' ⟨rfl, hw⟩
  refine ⟨?_, hw⟩
  have hn : nd (pre ++ (sb ++ t)) = pre.size := by
    rw [hp.out, hb.out, nd_app l c t hd hc]; rfl
  rw [hn, front_app, back_app]

theorem add_zero_off (B j : Nat) : (⟨B, 0, none⟩ : Addr).add j = ⟨B, j, none⟩ := by
  unfold Addr.add; split <;> simp_all

theorem conv_row {W : World} {B k cap : Nat} {zs : List Int} (hown : W.ownsRow B 5 1 (.slice (some ⟨B, 0, none⟩) k cap) k (D zs k)) (hzl : k ≤ zs.length) :
    (convert 26 9 (.slice (some ⟨B, 0, none⟩) k cap)).run Yba.prog W = .ok (.string ⟨(dl zs k).toArray⟩) W := by
  have h := run_convert_bytes_back (P := Yba.prog) W 26 9 5 ⟨B, 0, none⟩ cap (dl zs k) Yba.underlying26 Yba.underlying5 Yba.underlying9 (by
    intro j hj
    have hj' : j < k := by rw [dl_len zs k hzl] at hj; exact hj
    have h2 := hown.cellAt j (by omega)
    rw [D_at zs k j hj] at h2
    rw [add_zero_off]; exact h2)
  rw [dl_len zs k hzl] at h
  exact h

theorem conv_one (W : World) (c : Int) (h1 : 0 ≤ c) (h2 : c ≤ 255) :
    (convert 26 9 (.slice (some ⟨W.heap.size, 0, none⟩) 1 1)).run Yba.prog (W.alloc (.cells #[.int .u8 c] 5)) = .ok (.string ⟨#[UInt8.ofNat c.toNat]⟩) (W.alloc (.cells #[.int .u8 c] 5)) := by
  have h := run_convert_bytes_back (P := Yba.prog) (W.alloc (.cells #[.int .u8 c] 5)) 26 9 5 ⟨W.heap.size, 0, none⟩ 1 [UInt8.ofNat c.toNat] Yba.underlying26 Yba.underlying5 Yba.underlying9 (by
    intro j hj
    have e : ((UInt8.ofNat c.toNat).toNat : Int) = c := by rw [UInt8.toNat_ofNat']; omega
    have hj0 : j = 0 := by simpa using hj
    subst hj0
    have := cell_one_new W (.int .u8 c) 5 0 (.int .u8 c) rfl
    rw [this]
    simp only [List.getElem_cons_zero, e])
  exact h

theorem size_sum (p t : ByteArray) (c : UInt8) (h1 : p.size ≤ 1024) (h2 : t.size ≤ 1024) : (p ++ ((⟨#[c]⟩ : ByteArray) ++ t)).size ≤ maxLen := by
  have e : (⟨#[c]⟩ : ByteArray).size = 1 := rfl
  unfold maxLen
  rw [ByteArray.size_append, ByteArray.size_append, e]
  omega

theorem Hid.refl {α : Type} (x : α) : Hid (x = x) := rfl

theorem isD_no (c : Int) (h1 : 0 ≤ c) (h2 : c ≤ 255) (h : ¬ (48 ≤ c ∧ c ≤ 57)) : isD (UInt8.ofNat c.toNat) = false := by
  have e : ((UInt8.ofNat c.toNat).toNat : Int) = c := by rw [UInt8.toNat_ofNat']; omega
  simp only [isD, decide_eq_false_iff_not]
  omega

set_option maxHeartbeats 400000 in
theorem lawAB_core (b off len cap : Nat) (zs : List Int) (st : Int) (t : ByteArray) (w : World) (hlen : len ≤ 1024) (ht : t.size ≤ 1024) (hzl : len ≤ zs.length)
    (hcell : ∀ i, i < len → w.cell? ⟨b, off + i, none⟩ = some (.int .u8 (zs.getD i 0))) (hz : ∀ j : Nat, 0 ≤ zs.getD j 0 ∧ zs.getD j 0 ≤ 255) (hs1 : 0 ≤ st) (hs2 : st ≤ 255) (hbw : 0 < len → b < w.heap.size) :
    Calls Yba.prog 4 #[.slice (some ⟨b, off, none⟩) len cap, .int .u8 st, .string t] w fun e w' => e = .returned (.bool true) ∧ Below w.heap.size w w' := by
  obtain ⟨i0, hi, hz0, hz1, hz2⟩ := info_parts Yba.info5
  have hg1 : decide ((1024 : Int) < (len : Int)) = false := decide_eq_false (by omega)
  have hg2 : decide ((1024 : Int) < (t.size : Int)) = false := decide_eq_false (by omega)
  go_enter Yba.func4, Yba.ntmps4
  go_wp2_with (at_make; refine wpList_make_own _ rfl _ _ 26 rfl w.heap.size 5 i0 (.int .u8 0) 1 Yba.underlying26 hi hz0 hz1 _ _ _ len rfl rfl (by omega) (by rw [hz2]; omega) (by unfold maxLen; omega) (Nat.le_refl _) ?_; intro w1 hown1 hgr1)
  have hb1 : Below w.heap.size w w1 := (Below.refl _ _).grown hgr1 (Nat.le_refl _) (by intro k hk; cases hk)
  clear hgr1
  go_loopw [7, 8] (fun v i wr => ∃ k : Nat, k ≤ len ∧ i = .int .i64 k ∧ v = .slice (some ⟨w.heap.size, 0, none⟩) k len ∧ wr.ownsRow w.heap.size 5 1 (.slice (some ⟨w.heap.size, 0, none⟩) k len) k (D zs k) ∧ Below w.heap.size w wr)
    (fun _ i _ => len - (intOf i).toNat)
  case atStart => exact ⟨0, Nat.zero_le _, rfl, rfl, hown1, hb1⟩
  case round =>
    obtain ⟨k, hk, rfl, rfl, hown, hb⟩ := hrel
    clear hown1 hb1
    by_cases hlt : k < len
    · obtain ⟨z, hzz⟩ : ∃ z, z = zs.getD k 0 := ⟨_, rfl⟩
      have hc : wr.cell? ⟨b, off + k, none⟩ = some (.int .u8 z) := by
        rw [hb.cell (p := ⟨b, off + k, none⟩) (hbw (by omega)), hzz]; exact hcell k hlt
      have hzb := hz k
      rw [← hzz] at hzb
      obtain ⟨q1, q2⟩ := hzb
      have HZ : Hid (z = zs.getD k 0) := hzz
      clear hzz
      go_wp2_with (at_builtin; refine wpList_append_fits _ rfl _ _ 26 rfl w.heap.size 5 i0 1 Yba.underlying26 hi hz1 w.heap.size k len (D zs k) rfl (hown.alloc _) ⟨wr.heap.size, 0, none⟩ 1 1 [.int .u8 (48 + z % 10)] rfl rfl ?c1 ?c2 ?c3 ?_)
      case c1 => exact cell_one_new _ _ _
      case c2 => intro u hu; simp at hu; subst hu; rfl
      case c3 => omega
      · intro w2 hown2 hgr2
        have hb2 : Below w.heap.size w w2 := (hb.alloc hb.size _).grown hgr2 (by have := hb.size; simp; omega) (by intro k hk; cases hk; exact Nat.le_refl _)
        have hown3 : w2.ownsRow w.heap.size 5 1 (.slice (some ⟨w.heap.size, 0, none⟩) (k + 1) len) (k + 1) (D zs (k + 1)) := by
          rw [D_succ zs k (by omega), ← HZ.out]; exact hown2
        clear hown2 hgr2 hown hb hc
        go_wp2
        go_roundw
        case rel => exact ⟨k + 1, by omega, by go_num, rfl, hown3, hb2⟩
        case measure => simp [intOf]; omega
    · have e : k = len := by omega
      subst e
      obtain ⟨pre, hpre⟩ : ∃ p : ByteArray, p = ⟨(dl zs k).toArray⟩ := ⟨_, rfl⟩
      have hpsz : pre.size = k := by rw [hpre]; exact dl_len zs k hzl
      have hconv : (convert 26 9 (.slice (some ⟨w.heap.size, 0, none⟩) k k)).run Yba.prog wr = .ok (.string pre) wr := by
        rw [hpre]; exact conv_row hown hzl
      have HP : Hid (pre = ⟨(dl zs k).toArray⟩) := hpre
      have HS : Hid (pre.size = k) := hpsz
      have hps : pre.size ≤ 1024 := by omega
      clear hpre hpsz hown
      by_cases hd : 48 ≤ st ∧ st ≤ 57
      · obtain ⟨d1, d2⟩ := hd
        have hone := conv_one wr (97 + st % 10) (by omega) (by omega)
        have hsz := size_sum pre t (UInt8.ofNat (97 + st % 10).toNat) hps ht
        have hnd : isD (UInt8.ofNat (97 + st % 10).toNat) = false := isD_no _ (by omega) (by omega) (by omega)
        go_wp2_with (first | (go_at_call 8; refine (isdigit_yes _ _ d1 d2).mono ?_; rintro e w' ⟨rfl, rfl⟩) | (go_at_call 7; refine (leading_built pre _ t (dl zs k) _ _ HP (Hid.refl _) (dl_dig zs k) hnd hsz).mono ?_; rintro e w'' ⟨rfl, nq, rfl⟩))
        go_ret
        exact ⟨by simp, below_drewN (hb.alloc hb.size _) _⟩
      · have hone := conv_one wr st hs1 hs2
        have hsz := size_sum pre t (UInt8.ofNat st.toNat) hps ht
        have hnd : isD (UInt8.ofNat st.toNat) = false := isD_no _ hs1 hs2 (by omega)
        go_wp2_with (first | (go_at_call 8; refine (isdigit_no _ _ hd).mono ?_; rintro e w' ⟨rfl, rfl⟩) | (go_at_call 7; refine (leading_built pre _ t (dl zs k) _ _ HP (Hid.refl _) (dl_dig zs k) hnd hsz).mono ?_; rintro e w'' ⟨rfl, nq, rfl⟩))
        go_ret
        exact ⟨by simp, below_drewN (hb.alloc hb.size _) _⟩
set_option maxHeartbeats 400000 in
theorem lawAB_empty (a0 : Option Addr) (len cap : Nat) (st : Int) (t : ByteArray) (w : World) (hlen : len ≤ 0) (ht : t.size ≤ 1024) (hs1 : 0 ≤ st) (hs2 : st ≤ 255) :
    Calls Yba.prog 4 #[.slice a0 len cap, .int .u8 st, .string t] w fun e w' => e = .returned (.bool true) ∧ Below w.heap.size w w' := by
  obtain ⟨i0, hi, hz0, hz1, hz2⟩ := info_parts Yba.info5
  have hg1 : decide ((1024 : Int) < (len : Int)) = false := decide_eq_false (by omega)
  have hg2 : decide ((1024 : Int) < (t.size : Int)) = false := decide_eq_false (by omega)
  go_enter Yba.func4, Yba.ntmps4
  go_wp2_with (at_make; refine wpList_make_own _ rfl _ _ 26 rfl w.heap.size 5 i0 (.int .u8 0) 1 Yba.underlying26 hi hz0 hz1 _ _ _ len rfl rfl (by omega) (by rw [hz2]; omega) (by unfold maxLen; omega) (Nat.le_refl _) ?_; intro w1 hown1 hgr1)
  have hb1 : Below w.heap.size w w1 := (Below.refl _ _).grown hgr1 (Nat.le_refl _) (by intro k hk; cases hk)
  clear hgr1
  go_loopw [7, 8] (fun v i wr => ∃ k : Nat, k ≤ len ∧ i = .int .i64 k ∧ v = .slice (some ⟨w.heap.size, 0, none⟩) k len ∧ wr.ownsRow w.heap.size 5 1 (.slice (some ⟨w.heap.size, 0, none⟩) k len) k (D [] k) ∧ Below w.heap.size w wr)
    (fun _ i _ => len - (intOf i).toNat)
  case atStart => exact ⟨0, Nat.zero_le _, rfl, rfl, hown1, hb1⟩
  case round =>
    obtain ⟨k, hk, rfl, rfl, hown, hb⟩ := hrel
    clear hown1 hb1
    · have e : k = len := by omega
      subst e
      have hzl : k ≤ ([] : List Int).length := by simpa using hlen
      obtain ⟨pre, hpre⟩ : ∃ p : ByteArray, p = ⟨(dl [] k).toArray⟩ := ⟨_, rfl⟩
      have hpsz : pre.size = k := by rw [hpre]; exact dl_len [] k hzl
      have hconv : (convert 26 9 (.slice (some ⟨w.heap.size, 0, none⟩) k k)).run Yba.prog wr = .ok (.string pre) wr := by
        rw [hpre]; exact conv_row hown hzl
      have HP : Hid (pre = ⟨(dl [] k).toArray⟩) := hpre
      have HS : Hid (pre.size = k) := hpsz
      have hps : pre.size ≤ 1024 := by omega
      clear hpre hpsz hown
      by_cases hd : 48 ≤ st ∧ st ≤ 57
      · obtain ⟨d1, d2⟩ := hd
        have hone := conv_one wr (97 + st % 10) (by omega) (by omega)
        have hsz := size_sum pre t (UInt8.ofNat (97 + st % 10).toNat) hps ht
        have hnd : isD (UInt8.ofNat (97 + st % 10).toNat) = false := isD_no _ (by omega) (by omega) (by omega)
        go_wp2_with (first | (go_at_call 8; refine (isdigit_yes _ _ d1 d2).mono ?_; rintro e w' ⟨rfl, rfl⟩) | (go_at_call 7; refine (leading_built pre _ t (dl [] k) _ _ HP (Hid.refl _) (dl_dig [] k) hnd hsz).mono ?_; rintro e w'' ⟨rfl, nq, rfl⟩))
        go_ret
        exact ⟨by simp, below_drewN (hb.alloc hb.size _) _⟩
      · have hone := conv_one wr st hs1 hs2
        have hsz := size_sum pre t (UInt8.ofNat st.toNat) hps ht
        have hnd : isD (UInt8.ofNat st.toNat) = false := isD_no _ hs1 hs2 (by omega)
        go_wp2_with (first | (go_at_call 8; refine (isdigit_no _ _ hd).mono ?_; rintro e w' ⟨rfl, rfl⟩) | (go_at_call 7; refine (leading_built pre _ t (dl [] k) _ _ HP (Hid.refl _) (dl_dig [] k) hnd hsz).mono ?_; rintro e w'' ⟨rfl, nq, rfl⟩))
        go_ret
        exact ⟨by simp, below_drewN (hb.alloc hb.size _) _⟩

set_option maxHeartbeats 400000 in
theorem lawAB_big (a0 : Option Addr) (len cap : Nat) (st : Int) (t : ByteArray) (w : World) (h : 1024 < len ∨ 1024 < t.size) :
    Calls Yba.prog 4 #[.slice a0 len cap, .int .u8 st, .string t] w fun e w' => e = .returned (.bool true) ∧ Below w.heap.size w w' := by
  by_cases h1 : 1024 < len
  · clear h
    have hg1 : (1024 : Int) < (len : Int) := by omega
    go_enter Yba.func4, Yba.ntmps4
    go_wp2
    go_ret
    exact ⟨rfl, Below.refl _ _⟩
  · have h2 : 1024 < t.size := by omega
    clear h
    have hg1 : decide ((1024 : Int) < (len : Int)) = false := decide_eq_false (by omega)
    have hg2 : (1024 : Int) < (t.size : Int) := by omega
    go_enter Yba.func4, Yba.ntmps4
    go_wp2
    go_ret
    exact ⟨rfl, Below.refl _ _⟩

end Go.Proofs.Ybulkcbxi
