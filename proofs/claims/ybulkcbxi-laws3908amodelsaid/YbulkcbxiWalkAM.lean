/- The walk of LawS3908AModel (function 3). -/
import Derived.Test.YbulkcbxiWalkA
namespace Go.Proofs.Ybulkcbxi
open Go.RowKit PlainA

theorem get_front (s : ByteArray) (n k : Nat) (h : k < (s.extract 0 n).size) (h' : k < s.size) : (s.extract 0 n)[k] = s[k] := by
  simp [ByteArray.getElem_extract]

theorem get_back (s : ByteArray) (n : Nat) (h : 0 < (s.extract n s.size).size) (h' : n < s.size) : (s.extract n s.size)[0] = s[n] := by
  simp [ByteArray.getElem_extract]

theorem grown_drewN (w : World) (n : Nat) : Grown w (w.drewN n) := Grown.refl w

set_option maxHeartbeats 400000 in
theorem lawAM_walk (s : ByteArray) (hs : s.size ≤ maxLen) (w : World) :
    Calls Yba.prog 3 #[.string s] w fun e w' => e = .returned (.bool true) ∧ Grown w w' := by
  by_cases hbig : 4096 < s.size
  · go_enter Yba.func3, Yba.ntmps3
    go_wp2
    go_ret
    exact ⟨rfl, Grown.refl _⟩
  · have hle := nd_le s
    have hne : ((nd s : Int) + ((s.size - nd s : Nat) : Int) != (s.size : Int)) = false := by
      simp only [bne_eq_false_iff_eq]; omega
    go_enter Yba.func3, Yba.ntmps3
    go_wp2_with (go_at_call 7; refine (leading_any _ _ hs).mono ?_; rintro e w' ⟨rfl, nq, rfl⟩)
    go_loop [5] (fun i => ∃ k : Nat, k ≤ nd s ∧ i = .int .i64 k) (fun i => s.size - (intOf i).toNat)
    case atStart => exact ⟨0, Nat.zero_le _, rfl⟩
    case round =>
      obtain ⟨k, hk, rfl⟩ := hrel
      by_cases hlt : k < nd s
      · have hsz : k < s.size := by omega
        obtain ⟨d1, d2⟩ := nd_lt hlt hsz
        go_wp2_with (go_at_call 8; refine (isdigit_yes _ _ d1 d2).mono ?_; rintro e w' ⟨rfl, rfl⟩)
        go_round
        case rel => exact ⟨k + 1, by omega, by go_num⟩
        case measure => simp [intOf]; omega
      · have e : k = nd s := by omega
        subst e
        clear hk hlt
        by_cases hsz : nd s < s.size
        · have hn := nd_at hsz
          go_wp2_with (go_at_call 8; refine (isdigit_no _ _ hn).mono ?_; rintro e w' ⟨rfl, rfl⟩)
          go_loop [6] (fun i => ∃ k : Nat, k ≤ nd s ∧ i = .int .i64 k) (fun i => s.size - (intOf i).toNat)
          case atStart => exact ⟨0, Nat.zero_le _, rfl⟩
          case round =>
            obtain ⟨k, hk, rfl⟩ := hrel
            by_cases hlt : k < nd s
            · have hkz : k < s.size := by omega
              obtain ⟨d1, d2⟩ := nd_lt hlt hkz
              go_wp2_with (go_at_call 8; rw [get_front _ _ _ _ hkz]; refine (isdigit_yes _ _ d1 d2).mono ?_; rintro e w' ⟨rfl, rfl⟩)
              go_round
              case rel => exact ⟨k + 1, by omega, by go_num⟩
              case measure => simp [intOf]; omega
            · go_wp2_with (go_at_call 8; rw [get_back _ _ _ hsz]; refine (isdigit_no _ _ hn).mono ?_; rintro e w' ⟨rfl, rfl⟩)
              go_ret
              exact ⟨rfl, grown_drewN _ _⟩
        · go_wp2_with fail
          go_loop [6] (fun i => ∃ k : Nat, k ≤ nd s ∧ i = .int .i64 k) (fun i => s.size - (intOf i).toNat)
          case atStart => exact ⟨0, Nat.zero_le _, rfl⟩
          case round =>
            obtain ⟨k, hk, rfl⟩ := hrel
            by_cases hlt : k < nd s
            · have hkz : k < s.size := by omega
              obtain ⟨d1, d2⟩ := nd_lt hlt hkz
              go_wp2_with (go_at_call 8; rw [get_front _ _ _ _ hkz]; refine (isdigit_yes _ _ d1 d2).mono ?_; rintro e w' ⟨rfl, rfl⟩)
              go_round
              case rel => exact ⟨k + 1, by omega, by go_num⟩
              case measure => simp [intOf]; omega
            · go_wp2_with fail
              go_ret
              exact ⟨rfl, grown_drewN _ _⟩
end Go.Proofs.Ybulkcbxi
