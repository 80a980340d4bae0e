/- zzs3920bmin (7), zzs3920bcopy (5), Or (6). -/
import Derived.Test.YbulkccduBase
namespace Go.Proofs.Ybulkccdu
open Go.RowKit
set_option linter.unusedVariables false

theorem Yba.info26 : (Yba.prog.info? 26).map (fun i => (i.zero, i.size, i.bytes)) = some (some (.int .u64 0), 1, 8) := by kernel_rfl
theorem Yba.size26 : (Yba.prog.info? 26).map (·.size) = some 1 := by kernel_rfl

set_option maxHeartbeats 400000 in
/-- copy of a nil slice -/
theorem copy_nil (w : World) : Calls Yba.prog 5 #[.slice none 0 0] w fun e w' => e = .returned (.slice none 0 0) ∧ w' = w := by
  have hnil := fun w => Lib.run_eql_slice_nil (P := Yba.prog) (w := w)
  go_enter Yba.func5, Yba.ntmps5
  go_wp2
  go_ret
  exact ⟨rfl, rfl⟩

theorem own_block {w : World} {base g n : Nat} {e : TypeId} {xs : List Value} (h : w.ownsRow base e 1 (.slice (some ⟨g, 0, none⟩) n n) n xs) : ∃ cur : List Value, w.heap[g]? = some (.cells cur.toArray e (0, 0)) ∧ cur.length = n := by
  rcases h.2 with ⟨h', _⟩ | ⟨g', cap', cur, h', _, hg, _, _, hs, _⟩
  · simp at h'
  · simp only [Value.slice.injEq, Option.some.injEq, Addr.mk.injEq, and_true, true_and] at h'
    obtain ⟨rfl, rfl⟩ := h'
    exact ⟨cur.toList, by simpa using hg, by simpa using hs⟩

set_option maxHeartbeats 400000 in
/-- copy of a slice that is not nil -/
theorem copy_some (x : Addr) (len cap : Nat) (f : Nat → Value) (w : World) (hlen : len ≤ 1024) (hc : ∀ j, j < len → w.cell? (x.add j) = some (f j)) (h1 : ∀ j, j < len → (f j).oneCell' = true) :
    Calls Yba.prog 5 #[.slice (some x) len cap] w fun e w' => e = .returned (.slice (some ⟨w.heap.size, 0, none⟩) len len) ∧ Row w' w.heap.size len f ∧ w.heap.size < w'.heap.size ∧ Below w.heap.size w w' := by
  obtain ⟨i0, hi, hz0, hz1, hz2⟩ := info_parts Yba.info26
  have hnil := fun w => Lib.run_eql_slice_nil (P := Yba.prog) (w := w)
  obtain ⟨cs, hcs⟩ : ∃ cs, cs = (List.range len).map f := ⟨_, rfl⟩
  have hcl : cs.length = len := by rw [hcs]; simp
  have HCL : Hid (cs.length = len) := hcl
  have HCA : Hid (∀ j, j < len → cs[j]? = some (f j)) := fun j hj => by rw [hcs]; simp [hj]
  have HOV : Hid (∀ v ∈ cs, v.oneCell' = true) := by
    intro v hv
    rw [hcs] at hv
    obtain ⟨j, hj, rfl⟩ := List.mem_map.1 hv
    exact h1 j (by simpa using hj)
  clear hcs hcl h1
  go_enter Yba.func5, Yba.ntmps5
  go_wp2_with (first | (at_make; refine wpList_make_full _ rfl _ _ 22 rfl w.heap.size 26 i0 (.int .u64 0) 1 Yba.underlying22 hi hz0 hz1 .i64 .i64 (len : Int) (len : Int) len (by rfl) (by rfl) rfl rfl (by rw [hz2]; omega) (by unfold maxLen; omega) (Nat.le_refl _) ?_; intro w1 hown hgr; obtain ⟨cur, hcur, hsz⟩ := own_block hown; have hB : Below w.heap.size w w1 := (Below.refl _ _).grown hgr (Nat.le_refl _) (by intro k hk; cases hk); have hlt : w.heap.size < w1.heap.size := (hown.lt _ rfl).2; have HSZ : Hid (cur.length = len) := hsz; clear hown hgr hsz) | (refine wpList_copy_splice rfl (.tmp 9) (.tmp 10) 22 22 rfl 26 Yba.underlying22 Yba.size26 (some ⟨w.heap.size, 0, none⟩) (some x) len len len cap (by rfl) (by rfl) w.heap.size 0 cur 26 hcur cs ?s0 ?s1 ?s2 HOV.out w.heap.size w hB (Nat.le_refl _) ?_))
  case s0 => rw [HCL.out]; exact (Nat.min_self _).symm
  case s1 =>
    intro _ j v hv
    have hj : j < len := by
      have := (List.getElem?_eq_some_iff.1 hv).1
      rw [HCL.out] at this; exact this
    rw [HCA.out j hj] at hv
    cases hv
    have h2 := hc j hj
    rw [hB.cell (block_lt_of_cell h2)]
    exact h2
  case s2 => rw [HCL.out, HSZ.out]; omega
  · intro w2 hg2 hb2
    have hsp : splice cur 0 cs = cs := by
      unfold splice
      rw [HCL.out, List.drop_eq_nil_of_le (by rw [HSZ.out]; omega)]
      simp
    have hg3 := hg2.out
    rw [hsp] at hg3
    have HR : Hid (Row w2 w.heap.size len f) := by
      refine ⟨fun j hj => ?_, fun j _ => frozen_of_row w2 w.heap.size j _ 26 hg3⟩
      rw [cell_of_row w2 w.heap.size j _ 26 (0, 0) hg3]
      simpa using HCA.out j hj
    have HL : Hid (w.heap.size < w2.heap.size) := (Array.getElem?_eq_some_iff.1 hg3).1
    clear hg2 hg3 hsp hc
    go_wp2
    go_ret
    exact ⟨rfl, HR.out, HL.out, hb2⟩

set_option maxHeartbeats 400000 in
theorem min_any (x y z : Nat) (w : World) : Calls Yba.prog 7 #[.int .i64 x, .int .i64 y, .int .i64 z] w fun e w' => e = .returned (.int .i64 ((min (min x y) z : Nat) : Int)) ∧ w' = w := by
  by_cases h1 : y < x
  · by_cases h2 : z < y
    · have e : min (min x y) z = z := by omega
      rw [e]
      have i1 : (y : Int) < (x : Int) := by omega
      have i2 : (z : Int) < (y : Int) := by omega
      clear e
      go_enter Yba.func7, Yba.ntmps7
      go_wp2
      go_ret
      exact ⟨rfl, rfl⟩
    · have e : min (min x y) z = y := by omega
      rw [e]
      have i1 : (y : Int) < (x : Int) := by omega
      have i2 : ¬ (z : Int) < (y : Int) := by omega
      clear e
      go_enter Yba.func7, Yba.ntmps7
      go_wp2
      go_ret
      exact ⟨rfl, rfl⟩
  · by_cases h2 : z < x
    · have e : min (min x y) z = z := by omega
      rw [e]
      have i1 : ¬ (y : Int) < (x : Int) := by omega
      have i2 : (z : Int) < (x : Int) := by omega
      clear e
      go_enter Yba.func7, Yba.ntmps7
      go_wp2
      go_ret
      exact ⟨rfl, rfl⟩
    · have e : min (min x y) z = x := by omega
      rw [e]
      have i1 : ¬ (y : Int) < (x : Int) := by omega
      have i2 : ¬ (z : Int) < (x : Int) := by omega
      clear e
      go_enter Yba.func7, Yba.ntmps7
      go_wp2
      go_ret
      exact ⟨rfl, rfl⟩

theorem map_add0 (o : Option Addr) : o.map (fun x => x.add 0) = o := by
  cases o with
  | none => rfl
  | some x => simp [Addr.add]

/-- dst behind k rounds -/
def mix (A B : Nat → Int) (D : Nat → Value) (k j : Nat) : Value := if j < k then .int .u64 (bits .or .u64 (A j) (B j)) else D j
theorem mix_zero (A B : Nat → Int) (D : Nat → Value) (j : Nat) : mix A B D 0 j = D j := by simp [mix]
theorem mix_step (A B : Nat → Int) (D : Nat → Value) (k j : Nat) : (if j = k then Value.int .u64 (bits .or .u64 (A k) (B k)) else mix A B D k j) = mix A B D (k + 1) j := by
  unfold mix
  by_cases e : j = k
  · subst e; simp
  · rw [if_neg e]
    by_cases h : j < k
    · rw [if_pos h, if_pos (by omega)]
    · rw [if_neg h, if_neg (by omega)]
theorem mix_cell {w wr : World} {gd ga ld n k : Nat} {A B : Nat → Int} {D : Nat → Value} (ho : Only w wr gd) (hr : Row wr gd ld (mix A B D k)) (na : ga ≠ gd ∨ ∀ k, k < n → D k = .int .u64 (A k)) (hA : ∀ k, k < n → w.cell? ⟨ga, k, none⟩ = some (.int .u64 (A k))) (hk : k < n) (hl : n ≤ ld) :
    wr.cell? ⟨ga, k, none⟩ = some (.int .u64 (A k)) := by
  by_cases e : ga = gd
  · rcases na with h | h
    · exact absurd e h
    · subst e
      rw [hr.cell k (by omega)]
      unfold mix
      rw [if_neg (by omega), h k hk]
  · exact (ho.cell e).trans (hA k hk)

set_option maxHeartbeats 1000000 in
theorem or_d (od oa ob : Option Addr) (n la lb cd ca cb gd ga gb : Nat) (D : Nat → Value) (A Bf : Nat → Int) (w : World) (hd : n ≤ 1024) (ha : la ≤ 1024) (hb : lb ≤ 1024) (kd : n ≤ cd) (ka : la ≤ ca) (kb : lb ≤ cb) (m1 : n ≤ la) (m2 : n ≤ lb)
    (td : At od gd 0 n) (ta : At oa ga 0 n) (tb : At ob gb 0 n) (rd : Row w gd n D) (hA : ∀ k, k < n → w.cell? ⟨ga, k, none⟩ = some (.int .u64 (A k))) (hB : ∀ k, k < n → w.cell? ⟨gb, k, none⟩ = some (.int .u64 (Bf k))) (nb : 0 < n → gb ≠ gd) (na : ga ≠ gd ∨ ∀ k, k < n → D k = .int .u64 (A k)) :
    Calls Yba.prog 6 #[.slice od n cd, .slice oa la ca, .slice ob lb cb] w fun e w' => e = .returned (.int .i64 n) ∧ Only w w' gd ∧ Row w' gd n (mix A Bf D n) := by
  have hadd := map_add0
  have q1 : (n : Int) ≤ (la : Int) := by omega
  have q2 : (n : Int) ≤ (lb : Int) := by omega
  have q0 : (n : Int) ≤ (n : Int) := by omega
  have q3 : (n : Int) ≤ (cd : Int) := by omega
  have q4 : (n : Int) ≤ (ca : Int) := by omega
  have q5 : (n : Int) ≤ (cb : Int) := by omega
  have hlen : n ≤ n := by omega
  have hn : n ≤ 1024 := by omega
  have TD : Hid (At od gd 0 n) := td
  have TA : Hid (At oa ga 0 n) := ta
  have TB : Hid (At ob gb 0 n) := tb
  have RD : Hid (Row w gd n D) := rd
  have HA : Hid (∀ k, k < n → w.cell? ⟨ga, k, none⟩ = some (.int .u64 (A k))) := hA
  have HB : Hid (∀ k, k < n → w.cell? ⟨gb, k, none⟩ = some (.int .u64 (Bf k))) := hB
  have NB : Hid (0 < n → gb ≠ gd) := nb
  have NA : Hid (ga ≠ gd ∨ ∀ k, k < n → D k = .int .u64 (A k)) := na
  clear td ta tb rd hA hB nb na
  go_enter Yba.func6, Yba.ntmps6
  go_wp2
  go_quiet (fail)
  go_wp2
  clear hadd
  go_loopw [8, 27] (fun _ i wr => ∃ k : Nat, k ≤ n ∧ i = .int .i64 k ∧ Only w wr gd ∧ Row wr gd n (mix A Bf D k)) (fun _ i _ => n - (intOf i).toNat)
  case atStart => exact ⟨0, Nat.zero_le _, rfl, (Only.refl _ _).drewN _, (RD.out.same (fun j _ => (mix_zero A Bf D j).symm)).drewN _⟩
  case round =>
    obtain ⟨k, hk, rfl, ho, hr⟩ := hrel
    by_cases hlt : k < n
    · have i1 : (k : Int) < (n : Int) := by omega
      have cb1 : wr.cell? ⟨gb, k, none⟩ = some (.int .u64 (Bf k)) := (ho.cell (NB.out (by omega))).trans (HB.out k hlt)
      have ca1 : wr.cell? ⟨ga, k, none⟩ = some (.int .u64 (A k)) := mix_cell ho hr NA.out HA.out hlt (by omega)
      have cd1 := hr.cell k (by omega)
      have fd1 := hr.free k (by omega)
      have xd : ∀ W, (Instr.indexAt 22 (.slice od n cd) (.int .i64 (k : Int))).run Yba.prog W = .ok (.pointer (some ⟨gd, k, none⟩)) W := fun W => by have := TD.out k n cd W hlt hlt; rwa [Nat.zero_add] at this
      have xa : ∀ W, (Instr.indexAt 22 (.slice oa n ca) (.int .i64 (k : Int))).run Yba.prog W = .ok (.pointer (some ⟨ga, k, none⟩)) W := fun W => by have := TA.out k n ca W hlt hlt; rwa [Nat.zero_add] at this
      have xb : ∀ W, (Instr.indexAt 22 (.slice ob n cb) (.int .i64 (k : Int))).run Yba.prog W = .ok (.pointer (some ⟨gb, k, none⟩)) W := fun W => by have := TB.out k n cb W hlt hlt; rwa [Nat.zero_add] at this
      have HO : Hid (Only w (wr.setCell ⟨gd, k, none⟩ (.int .u64 (bits .or .u64 (A k) (Bf k)))) gd) := ho.setCell k _
      have HR : Hid (Row (wr.setCell ⟨gd, k, none⟩ (.int .u64 (bits .or .u64 (A k) (Bf k)))) gd n (mix A Bf D (k + 1))) := (hr.set k _).same (fun j _ => mix_step A Bf D k j)
      clear ho hr
      go_wp2
      go_region
      go_wp2
      go_roundw
      case rel => exact ⟨k + 1, by omega, by go_num, HO.out.drew, HR.out.drew⟩
      case measure => simp [intOf]; omega
    · have e : k = n := by omega
      subst e
      go_wp2
      go_ret
      exact ⟨rfl, ho, hr⟩

set_option maxHeartbeats 1000000 in
theorem or_a (od oa ob : Option Addr) (n ld lb cd ca cb gd ga gb : Nat) (D : Nat → Value) (A Bf : Nat → Int) (w : World) (hd : ld ≤ 1024) (ha : n ≤ 1024) (hb : lb ≤ 1024) (kd : ld ≤ cd) (ka : n ≤ ca) (kb : lb ≤ cb) (m1 : n < ld) (m2 : n ≤ lb)
    (td : At od gd 0 n) (ta : At oa ga 0 n) (tb : At ob gb 0 n) (rd : Row w gd ld D) (hA : ∀ k, k < n → w.cell? ⟨ga, k, none⟩ = some (.int .u64 (A k))) (hB : ∀ k, k < n → w.cell? ⟨gb, k, none⟩ = some (.int .u64 (Bf k))) (nb : 0 < n → gb ≠ gd) (na : ga ≠ gd ∨ ∀ k, k < n → D k = .int .u64 (A k)) :
    Calls Yba.prog 6 #[.slice od ld cd, .slice oa n ca, .slice ob lb cb] w fun e w' => e = .returned (.int .i64 n) ∧ Only w w' gd ∧ Row w' gd ld (mix A Bf D n) := by
  have hadd := map_add0
  have q1 : (n : Int) ≤ (n : Int) := by omega
  have q2 : (n : Int) ≤ (lb : Int) := by omega
  have q0 : (n : Int) ≤ (ld : Int) := by omega
  have q3 : (n : Int) ≤ (cd : Int) := by omega
  have q4 : (n : Int) ≤ (ca : Int) := by omega
  have q5 : (n : Int) ≤ (cb : Int) := by omega
  have hlen : n ≤ ld := by omega
  have hn : n ≤ 1024 := by omega
  have TD : Hid (At od gd 0 n) := td
  have TA : Hid (At oa ga 0 n) := ta
  have TB : Hid (At ob gb 0 n) := tb
  have RD : Hid (Row w gd ld D) := rd
  have HA : Hid (∀ k, k < n → w.cell? ⟨ga, k, none⟩ = some (.int .u64 (A k))) := hA
  have HB : Hid (∀ k, k < n → w.cell? ⟨gb, k, none⟩ = some (.int .u64 (Bf k))) := hB
  have NB : Hid (0 < n → gb ≠ gd) := nb
  have NA : Hid (ga ≠ gd ∨ ∀ k, k < n → D k = .int .u64 (A k)) := na
  clear td ta tb rd hA hB nb na
  go_enter Yba.func6, Yba.ntmps6
  go_wp2
  go_quiet (fail)
  go_wp2
  clear hadd
  go_loopw [8, 27] (fun _ i wr => ∃ k : Nat, k ≤ n ∧ i = .int .i64 k ∧ Only w wr gd ∧ Row wr gd ld (mix A Bf D k)) (fun _ i _ => n - (intOf i).toNat)
  case atStart => exact ⟨0, Nat.zero_le _, rfl, (Only.refl _ _).drewN _, (RD.out.same (fun j _ => (mix_zero A Bf D j).symm)).drewN _⟩
  case round =>
    obtain ⟨k, hk, rfl, ho, hr⟩ := hrel
    by_cases hlt : k < n
    · have i1 : (k : Int) < (n : Int) := by omega
      have cb1 : wr.cell? ⟨gb, k, none⟩ = some (.int .u64 (Bf k)) := (ho.cell (NB.out (by omega))).trans (HB.out k hlt)
      have ca1 : wr.cell? ⟨ga, k, none⟩ = some (.int .u64 (A k)) := mix_cell ho hr NA.out HA.out hlt (by omega)
      have cd1 := hr.cell k (by omega)
      have fd1 := hr.free k (by omega)
      have xd : ∀ W, (Instr.indexAt 22 (.slice od n cd) (.int .i64 (k : Int))).run Yba.prog W = .ok (.pointer (some ⟨gd, k, none⟩)) W := fun W => by have := TD.out k n cd W hlt hlt; rwa [Nat.zero_add] at this
      have xa : ∀ W, (Instr.indexAt 22 (.slice oa n ca) (.int .i64 (k : Int))).run Yba.prog W = .ok (.pointer (some ⟨ga, k, none⟩)) W := fun W => by have := TA.out k n ca W hlt hlt; rwa [Nat.zero_add] at this
      have xb : ∀ W, (Instr.indexAt 22 (.slice ob n cb) (.int .i64 (k : Int))).run Yba.prog W = .ok (.pointer (some ⟨gb, k, none⟩)) W := fun W => by have := TB.out k n cb W hlt hlt; rwa [Nat.zero_add] at this
      have HO : Hid (Only w (wr.setCell ⟨gd, k, none⟩ (.int .u64 (bits .or .u64 (A k) (Bf k)))) gd) := ho.setCell k _
      have HR : Hid (Row (wr.setCell ⟨gd, k, none⟩ (.int .u64 (bits .or .u64 (A k) (Bf k)))) gd ld (mix A Bf D (k + 1))) := (hr.set k _).same (fun j _ => mix_step A Bf D k j)
      clear ho hr
      go_wp2
      go_region
      go_wp2
      go_roundw
      case rel => exact ⟨k + 1, by omega, by go_num, HO.out.drew, HR.out.drew⟩
      case measure => simp [intOf]; omega
    · have e : k = n := by omega
      subst e
      go_wp2
      go_ret
      exact ⟨rfl, ho, hr⟩

set_option maxHeartbeats 1000000 in
theorem or_b (od oa ob : Option Addr) (n ld la cd ca cb gd ga gb : Nat) (D : Nat → Value) (A Bf : Nat → Int) (w : World) (hd : ld ≤ 1024) (ha : la ≤ 1024) (hb : n ≤ 1024) (kd : ld ≤ cd) (ka : la ≤ ca) (kb : n ≤ cb) (m1 : n < ld) (m2 : n < la)
    (td : At od gd 0 n) (ta : At oa ga 0 n) (tb : At ob gb 0 n) (rd : Row w gd ld D) (hA : ∀ k, k < n → w.cell? ⟨ga, k, none⟩ = some (.int .u64 (A k))) (hB : ∀ k, k < n → w.cell? ⟨gb, k, none⟩ = some (.int .u64 (Bf k))) (nb : 0 < n → gb ≠ gd) (na : ga ≠ gd ∨ ∀ k, k < n → D k = .int .u64 (A k)) :
    Calls Yba.prog 6 #[.slice od ld cd, .slice oa la ca, .slice ob n cb] w fun e w' => e = .returned (.int .i64 n) ∧ Only w w' gd ∧ Row w' gd ld (mix A Bf D n) := by
  have hadd := map_add0
  have q1 : (n : Int) ≤ (la : Int) := by omega
  have q2 : (n : Int) ≤ (n : Int) := by omega
  have q0 : (n : Int) ≤ (ld : Int) := by omega
  have q3 : (n : Int) ≤ (cd : Int) := by omega
  have q4 : (n : Int) ≤ (ca : Int) := by omega
  have q5 : (n : Int) ≤ (cb : Int) := by omega
  have hlen : n ≤ ld := by omega
  have hn : n ≤ 1024 := by omega
  have TD : Hid (At od gd 0 n) := td
  have TA : Hid (At oa ga 0 n) := ta
  have TB : Hid (At ob gb 0 n) := tb
  have RD : Hid (Row w gd ld D) := rd
  have HA : Hid (∀ k, k < n → w.cell? ⟨ga, k, none⟩ = some (.int .u64 (A k))) := hA
  have HB : Hid (∀ k, k < n → w.cell? ⟨gb, k, none⟩ = some (.int .u64 (Bf k))) := hB
  have NB : Hid (0 < n → gb ≠ gd) := nb
  have NA : Hid (ga ≠ gd ∨ ∀ k, k < n → D k = .int .u64 (A k)) := na
  clear td ta tb rd hA hB nb na
  go_enter Yba.func6, Yba.ntmps6
  go_wp2
  go_quiet (fail)
  go_wp2
  clear hadd
  go_loopw [8, 27] (fun _ i wr => ∃ k : Nat, k ≤ n ∧ i = .int .i64 k ∧ Only w wr gd ∧ Row wr gd ld (mix A Bf D k)) (fun _ i _ => n - (intOf i).toNat)
  case atStart => exact ⟨0, Nat.zero_le _, rfl, (Only.refl _ _).drewN _, (RD.out.same (fun j _ => (mix_zero A Bf D j).symm)).drewN _⟩
  case round =>
    obtain ⟨k, hk, rfl, ho, hr⟩ := hrel
    by_cases hlt : k < n
    · have i1 : (k : Int) < (n : Int) := by omega
      have cb1 : wr.cell? ⟨gb, k, none⟩ = some (.int .u64 (Bf k)) := (ho.cell (NB.out (by omega))).trans (HB.out k hlt)
      have ca1 : wr.cell? ⟨ga, k, none⟩ = some (.int .u64 (A k)) := mix_cell ho hr NA.out HA.out hlt (by omega)
      have cd1 := hr.cell k (by omega)
      have fd1 := hr.free k (by omega)
      have xd : ∀ W, (Instr.indexAt 22 (.slice od n cd) (.int .i64 (k : Int))).run Yba.prog W = .ok (.pointer (some ⟨gd, k, none⟩)) W := fun W => by have := TD.out k n cd W hlt hlt; rwa [Nat.zero_add] at this
      have xa : ∀ W, (Instr.indexAt 22 (.slice oa n ca) (.int .i64 (k : Int))).run Yba.prog W = .ok (.pointer (some ⟨ga, k, none⟩)) W := fun W => by have := TA.out k n ca W hlt hlt; rwa [Nat.zero_add] at this
      have xb : ∀ W, (Instr.indexAt 22 (.slice ob n cb) (.int .i64 (k : Int))).run Yba.prog W = .ok (.pointer (some ⟨gb, k, none⟩)) W := fun W => by have := TB.out k n cb W hlt hlt; rwa [Nat.zero_add] at this
      have HO : Hid (Only w (wr.setCell ⟨gd, k, none⟩ (.int .u64 (bits .or .u64 (A k) (Bf k)))) gd) := ho.setCell k _
      have HR : Hid (Row (wr.setCell ⟨gd, k, none⟩ (.int .u64 (bits .or .u64 (A k) (Bf k)))) gd ld (mix A Bf D (k + 1))) := (hr.set k _).same (fun j _ => mix_step A Bf D k j)
      clear ho hr
      go_wp2
      go_region
      go_wp2
      go_roundw
      case rel => exact ⟨k + 1, by omega, by go_num, HO.out.drew, HR.out.drew⟩
      case measure => simp [intOf]; omega
    · have e : k = n := by omega
      subst e
      go_wp2
      go_ret
      exact ⟨rfl, ho, hr⟩

/-- Or: it returns the least of the three lengths, lays the or's below it, leaves the rest of dst and all else -/
theorem or_any (od oa ob : Option Addr) (ld la lb cd ca cb gd ga gb n : Nat) (D : Nat → Value) (A Bf : Nat → Int) (w : World) (hd : ld ≤ 1024) (ha : la ≤ 1024) (hb : lb ≤ 1024) (kd : ld ≤ cd) (ka : la ≤ ca) (kb : lb ≤ cb) (hn : n = min (min ld la) lb)
    (td : At od gd 0 n) (ta : At oa ga 0 n) (tb : At ob gb 0 n) (rd : Row w gd ld D) (hA : ∀ k, k < n → w.cell? ⟨ga, k, none⟩ = some (.int .u64 (A k))) (hB : ∀ k, k < n → w.cell? ⟨gb, k, none⟩ = some (.int .u64 (Bf k))) (nb : 0 < n → gb ≠ gd) (na : ga ≠ gd ∨ ∀ k, k < n → D k = .int .u64 (A k)) :
    Calls Yba.prog 6 #[.slice od ld cd, .slice oa la ca, .slice ob lb cb] w fun e w' => e = .returned (.int .i64 n) ∧ Only w w' gd ∧ Row w' gd ld (mix A Bf D n) := by
  by_cases h1 : ld ≤ la ∧ ld ≤ lb
  · obtain rfl : n = ld := by omega
    exact or_d od oa ob n la lb cd ca cb gd ga gb D A Bf w hd ha hb kd ka kb h1.1 h1.2 td ta tb rd hA hB nb na
  · by_cases h2 : la ≤ lb
    · obtain rfl : n = la := by omega
      exact or_a od oa ob n ld lb cd ca cb gd ga gb D A Bf w hd ha hb kd ka kb (by omega) h2 td ta tb rd hA hB nb na
    · obtain rfl : n = lb := by omega
      exact or_b od oa ob n ld la cd ca cb gd ga gb D A Bf w hd ha hb kd ka kb (by omega) (by omega) td ta tb rd hA hB nb na

/-- what is known of a slice of integers that came in -/
def Arg (w : World) (ao : Option Addr) (len cap : Nat) (f : Nat → Int) : Prop :=
  (ao = none ∧ len = 0 ∧ cap = 0) ∨ ∃ x, ao = some x ∧ ∀ j, j < len → w.cell? (x.add j) = some (.int .u64 (f j))

theorem Arg.spot {w : World} {ao : Option Addr} {len cap : Nat} {f : Nat → Int} (h : Arg w ao len cap f) : ∃ b off, At ao b off len ∧ (∀ j, j < len → w.cell? ⟨b, off + j, none⟩ = some (.int .u64 (f j))) ∧ (0 < len → b < w.heap.size) := by
  rcases h with ⟨rfl, rfl, rfl⟩ | ⟨x, rfl, hx⟩
  · exact ⟨0, 0, at_none _ _ _, fun j h => by omega, fun h => by omega⟩
  · by_cases h0 : len = 0
    · subst h0
      exact ⟨0, 0, at_none _ _ _, fun j h => by omega, fun h => by omega⟩
    · obtain ⟨b, off, spot⟩ := x
      have hspot : spot = none := by
        have := hx 0 (by omega)
        simpa [Addr.add] using World.cell?_spot this
      subst hspot
      have hc : ∀ j, j < len → w.cell? ⟨b, off + j, none⟩ = some (.int .u64 (f j)) := fun j hj => by
        have := hx j hj
        rwa [Go.WideShapes.add_plain] at this
      exact ⟨b, off, at_some b off len, hc, fun _ => block_lt_of_cell (hc 0 (by omega))⟩

/-- copy, whatever the slice -/
theorem copy_any (ao : Option Addr) (len cap : Nat) (f : Nat → Int) (w : World) (hlen : len ≤ 1024) (h : Arg w ao len cap f) :
    Calls Yba.prog 5 #[.slice ao len cap] w fun e w' => (∃ og g, e = .returned (.slice og len len) ∧ At og g 0 len ∧ Row w' g len (fun j => .int .u64 (f j)) ∧ w.heap.size ≤ g ∧ (0 < len → g < w'.heap.size)) ∧ Below w.heap.size w w' := by
  rcases h with ⟨rfl, rfl, rfl⟩ | ⟨x, rfl, hx⟩
  · refine (copy_nil w).mono ?_
    rintro e w' ⟨rfl, rfl⟩
    exact ⟨⟨none, _, rfl, at_none _ _ _, ⟨fun j h => by omega, fun j h => by omega⟩, Nat.le_refl _, fun h => by omega⟩, Below.refl _ _⟩
  · refine (copy_some x len cap (fun j => .int .u64 (f j)) w hlen hx (fun _ _ => rfl)).mono ?_
    rintro e w' ⟨rfl, hr, hl, hb⟩
    exact ⟨⟨_, _, rfl, at_some _ _ _, hr, Nat.le_refl _, fun _ => hl⟩, hb⟩

end Go.Proofs.Ybulkccdu
