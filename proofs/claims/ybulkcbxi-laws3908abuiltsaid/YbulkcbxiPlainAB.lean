/- Plain facts for LawS3908ABuilt: the digits that are built, and where the split of (digits ++ one other byte ++ tail) falls. -/
import Derived.Test.YbulkcbxiPlainA
import Derived.WalkKit
namespace Go.Proofs.Ybulkcbxi.PlainA

/-- the cells that the loop has appended after k rounds -/
def D (zs : List Int) (k : Nat) : List Value := (zs.take k).map fun z => Value.int .u8 (48 + z % 10)

theorem D_zero (zs : List Int) : D zs 0 = [] := rfl

theorem D_len (zs : List Int) (k : Nat) (h : k ≤ zs.length) : (D zs k).length = k := by simp [D]; omega

theorem D_succ (zs : List Int) (k : Nat) (h : k < zs.length) : D zs (k + 1) = D zs k ++ [Value.int .u8 (48 + zs.getD k 0 % 10)] := by
  unfold D
  have e : zs.getD k 0 = zs[k] := by rw [List.getD_eq_getElem?_getD, List.getElem?_eq_getElem h]; rfl
  rw [List.take_succ_eq_append_getElem h, List.map_append, e]
  rfl

/-- the bytes of the built string -/
def dl (zs : List Int) (k : Nat) : List UInt8 := (zs.take k).map fun z => UInt8.ofNat (48 + z % 10).toNat

theorem dl_len (zs : List Int) (k : Nat) (h : k ≤ zs.length) : (dl zs k).length = k := by simp [dl]; omega

theorem dig_nat (z : Int) : ((UInt8.ofNat (48 + z % 10).toNat).toNat : Int) = 48 + z % 10 := by
  rw [UInt8.toNat_ofNat']
  omega

theorem D_at (zs : List Int) (k j : Nat) (h : j < (dl zs k).length) : (D zs k)[j]? = some (.int .u8 ((dl zs k)[j].toNat : Int)) := by
  have h' : j < (zs.take k).length := by simpa [dl] using h
  have e : (dl zs k)[j] = UInt8.ofNat (48 + (zs.take k)[j] % 10).toNat := by simp [dl]
  rw [e, dig_nat]
  unfold D
  rw [List.getElem?_map, List.getElem?_eq_getElem h']
  rfl

theorem dl_dig (zs : List Int) (k : Nat) : ∀ c ∈ dl zs k, isD c = true := by
  intro c hc
  simp only [dl, List.mem_map] at hc
  obtain ⟨z, _, rfl⟩ := hc
  have := dig_nat z
  simp only [isD, decide_eq_true_eq]
  omega

theorem takeWhile_app (l r : List UInt8) (c : UInt8) (h : ∀ x ∈ l, isD x = true) (hc : isD c = false) : (l ++ c :: r).takeWhile isD = l := by
  induction l with
  | nil => simp [hc]
  | cons x t ih =>
    have hx := h x (by simp)
    have := ih (fun y hy => h y (by simp [hy]))
    simp [hx, this]

theorem nd_app (l : List UInt8) (c : UInt8) (t : ByteArray) (h : ∀ x ∈ l, isD x = true) (hc : isD c = false) :
    nd ((⟨l.toArray⟩ : ByteArray) ++ ((⟨#[c]⟩ : ByteArray) ++ t)) = l.length := by
  unfold nd
  have e : ((⟨l.toArray⟩ : ByteArray) ++ ((⟨#[c]⟩ : ByteArray) ++ t)).data.toList = l ++ c :: t.data.toList := by simp
  rw [e, takeWhile_app l _ c h hc]

theorem front_app (a b : ByteArray) : (a ++ b).extract 0 a.size = a := by
  apply ByteArray.ext; simp

theorem back_app (a b : ByteArray) : (a ++ b).extract a.size (a ++ b).size = b := by
  apply ByteArray.ext
  have h1 : a.data.extract a.size (a.size + b.size) = #[] := Array.extract_empty_of_size_le_start (Nat.le_refl _)
  have h2 : b.data.extract 0 b.size = b.data := Array.extract_size
  simp [h1, h2]

end Go.Proofs.Ybulkcbxi.PlainA
