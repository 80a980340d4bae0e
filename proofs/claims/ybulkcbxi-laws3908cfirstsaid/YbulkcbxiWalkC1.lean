/- LawS3908CFirst: the leaf functions: zzs3908cname (12), zzs3908cquery (10), strings.Repeat at the one letter x (13). -/
import Derived.Test.YbulkcbxiShelf
import Derived.WalkKit
import Derived.WalkSpells
import Derived.WalkLawsBesides
namespace Go.Proofs.Ybulkcbxi
open Go.RowKit

/-- the name of number x -/
def nm (x : Int) : ByteArray :=
  if x % 5 = 0 then ⟨#[]⟩ else if x % 5 = 1 then ⟨#[97]⟩ else if x % 5 = 2 then ⟨#[98]⟩ else if x % 5 = 3 then ⟨#[97, 98]⟩ else ⟨#[65]⟩

/-- i copies of the letter x -/
def rp (i : Nat) : ByteArray := ⟨(Lib.repeatL [120] i).toArray⟩

/-- the query -/
def qy (x : Int) (q : ByteArray) : ByteArray := if x % 2 = 0 then q else nm (x / 2)

theorem repeat_any (i : Nat) (w : World) (hi : i ≤ 300) :
    Calls Yba.prog 13 #[.string ⟨#[120]⟩, .int .i64 i] w fun e w' => e = .returned (.string (rp i)) ∧ Below w.heap.size w w' :=
  Yba.strings_Repeat ⟨#[120]⟩ i w (by omega) (by have : (⟨#[120]⟩ : ByteArray).size = 1 := rfl; rw [this]; omega)

set_option maxHeartbeats 400000 in
theorem name_any (x : Int) (w : World) (h0 : 0 ≤ x) (h1 : x ≤ 255) :
    Calls Yba.prog 12 #[.int .u8 x] w fun e w' => e = .returned (.string (nm x)) ∧ w' = w := by
  have hx : x % 5 = 0 ∨ x % 5 = 1 ∨ x % 5 = 2 ∨ x % 5 = 3 ∨ x % 5 = 4 := by omega
  rcases hx with h | h | h | h | h
  all_goals
    go_enter Yba.func12, Yba.ntmps12
    go_wp2
    go_ret
    exact ⟨by simp [nm, h], rfl⟩

set_option maxHeartbeats 400000 in
theorem query_any (x : Int) (q : ByteArray) (w : World) (h0 : 0 ≤ x) (h1 : x ≤ 255) :
    Calls Yba.prog 10 #[.int .u8 x, .string q] w fun e w' => e = .returned (.string (qy x q)) ∧ w' = w := by
  by_cases h : x % 2 = 0
  · go_enter Yba.func10, Yba.ntmps10
    go_wp2
    go_ret
    exact ⟨by simp [qy, h], rfl⟩
  · have h' : x % 2 = 1 := by omega
    go_enter Yba.func10, Yba.ntmps10
    go_wp2_with (go_at_call 12; refine (name_any _ _ (by omega) (by omega)).mono ?_; rintro e w' ⟨rfl, rfl⟩)
    go_ret
    exact ⟨by simp [qy, h'], rfl⟩

/-- the row of a slice stands behind a call that lets all old blocks be -/
theorem owns_below {w w' : World} {base : Nat} {e : TypeId} {size : Nat} {v : Value} {n : Nat} {xs : List Value} (h : w.ownsRow base e size v n xs) (hb : Below w.heap.size w w') : w'.ownsRow base e size v n xs := by
  refine ⟨h.1, ?_⟩
  rcases h.2 with hn | ⟨g, cap, cur, rfl, hb', hg, rest⟩
  · exact .inl hn
  · refine .inr ⟨g, cap, cur, rfl, hb', ?_, rest⟩
    rw [hb.block g (Array.getElem?_eq_some_iff.1 hg).1]
    exact hg

/-- the cells of the first k members -/
def MC (zs : List Int) : Nat → List Value
  | 0 => []
  | k + 1 => MC zs k ++ [.string (nm (zs.getD k 0)), .int .u8 4, .string (rp k), .slice none 0 0]

theorem MC_len (zs : List Int) : ∀ k, (MC zs k).length = k * 4
  | 0 => rfl
  | k + 1 => by simp [MC, MC_len zs k]; omega

theorem MC_at (zs : List Int) : ∀ (n k r : Nat), k < n → r < 4 → (MC zs n)[k * 4 + r]? = [.string (nm (zs.getD k 0)), .int .u8 4, .string (rp k), .slice none 0 0][r]?
  | 0, k, r, h, _ => by omega
  | n + 1, k, r, h, hr => by
    have hl := MC_len zs n
    unfold MC
    by_cases hk : k < n
    · rw [List.getElem?_append_left (by omega)]
      exact MC_at zs n k r hk hr
    · have e : k = n := by omega
      subst e
      rw [List.getElem?_append_right (by omega)]
      congr 1
      omega
end Go.Proofs.Ybulkcbxi
