/- Plain facts on the count of leading ASCII digits of a byte string. Nothing of the program. -/
import GoSem.Claim
namespace Go.Proofs.Ybulkcbxi.PlainA

def isD (c : UInt8) : Bool := decide (48 ≤ c.toNat ∧ c.toNat ≤ 57)

/-- the number of leading digits -/
def nd (s : ByteArray) : Nat := (s.data.toList.takeWhile isD).length

theorem take_len_le (l : List UInt8) : (l.takeWhile isD).length ≤ l.length := by
  induction l with
  | nil => simp
  | cons c t ih => by_cases h : isD c = true <;> simp [h]; omega

theorem nd_le (s : ByteArray) : nd s ≤ s.size := by
  have := take_len_le s.data.toList
  unfold nd; simpa using this

theorem lt_list : ∀ (l : List UInt8) (k : Nat), k < (l.takeWhile isD).length → ∃ c, l[k]? = some c ∧ isD c = true
  | [], k, h => by simp at h
  | c :: t, k, h => by
    by_cases hc : isD c = true
    · cases k with
      | zero => exact ⟨c, rfl, hc⟩
      | succ k =>
        obtain ⟨d, h1, h2⟩ := lt_list t k (by simpa [List.takeWhile_cons, hc] using h)
        exact ⟨d, by simpa using h1, h2⟩
    · simp [hc] at h

theorem eq_list : ∀ (l : List UInt8) (c : UInt8), l[(l.takeWhile isD).length]? = some c → isD c = false
  | [], c, h => by simp at h
  | d :: t, c, h => by
    by_cases hc : isD d = true
    · exact eq_list t c (by simpa [List.takeWhile_cons, hc] using h)
    · simp [hc] at h; subst h; simpa using hc

theorem get_opt (s : ByteArray) (k : Nat) (h : k < s.size) : s.data.toList[k]? = some s[k] := by
  rw [List.getElem?_eq_getElem (by simpa using h)]; rfl

theorem nd_lt {s : ByteArray} {k : Nat} (h : k < nd s) (hk : k < s.size) : 48 ≤ (s[k].toNat : Int) ∧ (s[k].toNat : Int) ≤ 57 := by
  obtain ⟨c, h1, h2⟩ := lt_list _ k h
  rw [get_opt s k hk] at h1
  cases h1
  simp [isD] at h2; omega

theorem nd_at {s : ByteArray} (hk : nd s < s.size) : ¬ (48 ≤ (s[nd s].toNat : Int) ∧ (s[nd s].toNat : Int) ≤ 57) := by
  have h := eq_list s.data.toList s[nd s] (get_opt s (nd s) hk)
  simp [isD] at h; omega

end Go.Proofs.Ybulkcbxi.PlainA
