/- Plain facts for LawS3911BModel: a curve of rising times T, covered segments C; nothing of the program. -/
import GoSem.Claim
namespace Go.Proofs.Ybulkcbyy.PlainB

/-- the curve's times -/
def Tf (b : Int) (G : Nat → Int) : Nat → Int
  | 0 => b
  | k + 1 => Tf b G k + G (k + 1) + 1

/-- covered before -/
def CBf (T : Nat → Int) (C : Nat → Bool) : Nat → Int
  | 0 => 0
  | k + 1 => CBf T C k + if C k = true then T (k + 1) - T k else 0

/-- the model's sum over the first k segments -/
def Mf (T : Nat → Int) (C : Nat → Bool) (t : Int) : Nat → Int
  | 0 => 0
  | k + 1 => Mf T C t k + if C k = true ∧ T k < t then min t (T (k + 1)) - T k else 0

/-- coveredTime, c the number of times that are at most t -/
def ctf (T : Nat → Int) (C : Nat → Bool) (t : Int) (c : Nat) : Int :=
  if c = 0 then 0 else if C (c - 1) = true then CBf T C (c - 1) + t - T (c - 1) else CBf T C (c - 1)

theorem Tf_bounds (b : Int) (G : Nat → Int) (n : Nat) (hG : ∀ i, i < n → 0 ≤ G i ∧ G i ≤ 65535) : ∀ k, k < n → b + k ≤ Tf b G k ∧ Tf b G k ≤ b + 65536 * k
  | 0, _ => by simp [Tf]
  | k + 1, h => by
    have h1 := Tf_bounds b G n hG k (by omega)
    have h2 := hG (k + 1) h
    simp only [Tf]
    omega

theorem Tf_rises (b : Int) (G : Nat → Int) (n : Nat) (hG : ∀ i, i < n → 0 ≤ G i ∧ G i ≤ 65535) (i : Nat) (h : i + 1 < n) : Tf b G i < Tf b G (i + 1) := by
  have h2 := hG (i + 1) h
  simp only [Tf]
  omega

theorem rises_le {T : Nat → Int} {n : Nat} (h : ∀ i, i + 1 < n → T i < T (i + 1)) : ∀ j i, i ≤ j → j < n → T i ≤ T j
  | 0, i, hi, _ => by have : i = 0 := by omega
                      subst this; exact Int.le_refl _
  | j + 1, i, hi, hj => by
    by_cases e : i = j + 1
    · subst e; exact Int.le_refl _
    · have h1 := rises_le h j i (by omega) (by omega)
      have h2 := h j hj
      omega

theorem CBf_bounds {T : Nat → Int} {C : Nat → Bool} {n : Nat} (h : ∀ i, i + 1 < n → T i < T (i + 1)) : ∀ k, k < n → 0 ≤ CBf T C k ∧ CBf T C k ≤ T k - T 0
  | 0, _ => by simp [CBf]
  | k + 1, hk => by
    have h1 := CBf_bounds (C := C) h k (by omega)
    have h2 := h k hk
    simp only [CBf]
    split <;> omega

theorem Mf_bounds {T : Nat → Int} {C : Nat → Bool} {n : Nat} (t : Int) (h : ∀ i, i + 1 < n → T i < T (i + 1)) : ∀ k, k < n → 0 ≤ Mf T C t k ∧ Mf T C t k ≤ T k - T 0
  | 0, _ => by simp [Mf]
  | k + 1, hk => by
    have h1 := Mf_bounds (C := C) t h k (by omega)
    have h2 := h k hk
    simp only [Mf]
    split <;> omega

/-- up to the segment that holds t the model's sum is what is covered before -/
theorem Mf_low {T : Nat → Int} {C : Nat → Bool} {n c : Nat} {t : Int} (h : ∀ i, i + 1 < n → T i < T (i + 1)) (hc : c ≤ n) (h1 : ∀ i, i < c → T i ≤ t) : ∀ k, k + 1 ≤ c → Mf T C t k = CBf T C k
  | 0, _ => rfl
  | k + 1, hk => by
    have ih := Mf_low (C := C) h hc h1 k (by omega)
    have a1 := h1 (k + 1) (by omega)
    have a2 := h k (by omega)
    simp only [Mf, CBf, ih]
    by_cases e : C k = true
    · rw [if_pos ⟨e, by omega⟩, if_pos e]; omega
    · rw [if_neg (fun x => e x.1), if_neg e]

/-- behind it nothing is added -/
theorem Mf_high {T : Nat → Int} {C : Nat → Bool} {n c : Nat} {t : Int} (h2 : ∀ i, c ≤ i → i < n → t < T i) : ∀ k, c ≤ k → k < n → Mf T C t k = Mf T C t c
  | 0, hk, _ => by have : c = 0 := by omega
                   subst this; rfl
  | k + 1, hk, hn => by
    by_cases e : c = k + 1
    · subst e; rfl
    · have ih := Mf_high (C := C) h2 k (by omega) (by omega)
      have a := h2 k (by omega) (by omega)
      simp only [Mf, ih]
      rw [if_neg (by omega)]; omega

theorem the_law {T : Nat → Int} {C : Nat → Bool} {n c : Nat} {t : Int} (h : ∀ i, i + 1 < n → T i < T (i + 1)) (hC : ∀ i, i + 1 = n → C i = false) (hc : c ≤ n)
    (h1 : ∀ i, i < c → T i ≤ t) (h2 : ∀ i, c ≤ i → i < n → t < T i) : ctf T C t c = Mf T C t (n - 1) := by
  unfold ctf
  by_cases e0 : c = 0
  · subst e0
    rw [if_pos rfl]
    by_cases en : n = 0
    · subst en; rfl
    · rw [Mf_high h2 (n - 1) (by omega) (by omega)]; rfl
  · rw [if_neg e0]
    obtain ⟨i, rfl⟩ : ∃ i, c = i + 1 := ⟨c - 1, by omega⟩
    simp only [Nat.add_sub_cancel]
    have hl := Mf_low (C := C) h hc h1 i (by omega)
    by_cases en : i + 1 = n
    · rw [if_neg (by rw [hC i en]; simp)]
      have : n - 1 = i := by omega
      rw [this, hl]
    · have a1 := h1 i (by omega)
      have a2 := h2 (i + 1) (by omega) (by omega)
      rw [Mf_high h2 (n - 1) (by omega) (by omega)]
      simp only [Mf, hl]
      by_cases e : C i = true
      · rw [if_pos e]
        by_cases e3 : T i < t
        · rw [if_pos ⟨e, e3⟩]; omega
        · rw [if_neg (fun x => e3 x.2)]; omega
      · rw [if_neg e, if_neg (fun x => e x.1)]; omega

end Go.Proofs.Ybulkcbyy.PlainB
