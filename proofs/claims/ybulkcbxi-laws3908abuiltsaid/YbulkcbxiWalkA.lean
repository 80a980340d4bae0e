/- The walks of zzs3908aisdigit (function 8) and leadingDigits (function 7). -/
import Derived.Test.YbulkcbxiRows
import Derived.Test.YbulkcbxiPlainA
import Derived.WalkKit
import Derived.WalkSpells
import Derived.WalkLawsBesides
import Derived.Deep.QuietTactic
import Derived.BigQuiet
namespace Go.Proofs.Ybulkcbxi
open Go.RowKit PlainA

set_option maxHeartbeats 400000 in
theorem isdigit_yes (b : Int) (w : World) (h1 : 48 ≤ b) (h2 : b ≤ 57) :
    Calls Yba.prog 8 #[.int .u8 b] w fun e w' => e = .returned (.bool true) ∧ w' = w := by
  go_enter Yba.func8, Yba.ntmps8
  go_wp2
  go_ret
  exact ⟨rfl, rfl⟩

set_option maxHeartbeats 400000 in
theorem isdigit_no (b : Int) (w : World) (h : ¬ (48 ≤ b ∧ b ≤ 57)) :
    Calls Yba.prog 8 #[.int .u8 b] w fun e w' => e = .returned (.bool false) ∧ w' = w := by
  by_cases h1 : 48 ≤ b
  · have h2 : ¬ b ≤ 57 := by omega
    clear h
    go_enter Yba.func8, Yba.ntmps8
    go_wp2
    go_ret
    exact ⟨rfl, rfl⟩
  · clear h
    go_enter Yba.func8, Yba.ntmps8
    go_wp2
    go_ret
    exact ⟨rfl, rfl⟩

set_option maxHeartbeats 400000 in
/-- leadingDigits -/
theorem leading_any (s : ByteArray) (w : World) (hs : s.size ≤ maxLen) :
    Calls Yba.prog 7 #[.string s] w fun e w' => e = .returned (.tuple #[.string (s.extract 0 (nd s)), .string (s.extract (nd s) s.size)]) ∧ ∃ n, w' = w.drewN n := by
  unfold maxLen at hs
  have hle := nd_le s
  go_enter Yba.func7, Yba.ntmps7
  go_wp2
  go_loop [4] (fun i => ∃ k : Nat, k ≤ nd s ∧ i = .int .i64 k) (fun i => s.size - (intOf i).toNat)
  case atStart => exact ⟨0, Nat.zero_le _, rfl⟩
  case round =>
    obtain ⟨k, hk, rfl⟩ := hrel
    by_cases hlt : k < nd s
    · have hsz : k < s.size := by omega
      obtain ⟨d1, d2⟩ := nd_lt hlt hsz
      go_wp2
      go_round
      case rel => exact ⟨k + 1, by omega, by go_num⟩
      case measure => simp [intOf]; omega
    · have e : k = nd s := by omega
      subst e
      by_cases hsz : nd s < s.size
      · have hn := nd_at hsz
        by_cases d1 : 48 ≤ (s[nd s].toNat : Int)
        · have d2 : ¬ (s[nd s].toNat : Int) ≤ 57 := by omega
          clear hn
          go_wp2
          go_quiet (fail); go_wp2
          go_ret2
          exact ⟨rfl, _, rfl⟩
        · clear hn
          go_wp2
          go_quiet (fail); go_wp2
          go_ret2
          exact ⟨rfl, _, rfl⟩
      · go_wp2
        go_quiet (fail); go_wp2
        go_ret2
        exact ⟨rfl, _, rfl⟩
end Go.Proofs.Ybulkcbxi
