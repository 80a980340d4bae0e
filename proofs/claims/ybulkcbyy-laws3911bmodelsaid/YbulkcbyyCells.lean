/- A row of one-cell elements that the call itself has made, said cell by cell. -/
import Derived.WalkKit
import Derived.Deep.Draws
namespace Go.Proofs.Ybulkcbyy
open Go.RowKit

/-- block g holds f 0, .., f (n - 1), and may be written -/
structure Row (w : World) (g n : Nat) (f : Nat → Value) : Prop where
  cell : ∀ j, j < n → w.cell? ⟨g, j, none⟩ = some (f j)
  free : ∀ j, j < n → w.frozen? ⟨g, j, none⟩ = false
  lt : g < w.heap.size

theorem Row.make {w : World} {base g n : Nat} {e : TypeId} {z : Value} (hz : z.cells = #[z]) (h : w.ownsRow base e 1 (.slice (some ⟨g, 0, none⟩) n n) n (madeCells z.cells (n * 1)).toList) : Row w g n (fun _ => z) := by
  refine ⟨fun j hj => ?_, fun j _ => h.frozenAt j, (h.lt g rfl).2⟩
  rw [h.cellAt j (by omega), hz, Nat.mul_one, toList_madeCells_one]
  simp [hj]

theorem Row.below {w w' : World} {g n : Nat} {f : Nat → Value} (h : Row w g n f) (hb : Below w.heap.size w w') : Row w' g n f :=
  ⟨fun j hj => (hb.cell (p := ⟨g, j, none⟩) h.lt).trans (h.cell j hj), fun j hj => (hb.frozen (p := ⟨g, j, none⟩) h.lt).trans (h.free j hj), Nat.lt_of_lt_of_le h.lt hb.size⟩

theorem Row.same {w : World} {g n : Nat} {f f' : Nat → Value} (h : Row w g n f) (hf : ∀ j, j < n → f j = f' j) : Row w g n f' :=
  ⟨fun j hj => by rw [← hf j hj]; exact h.cell j hj, h.free, h.lt⟩

theorem Row.other {w : World} {g n : Nat} {f : Nat → Value} (h : Row w g n f) {g' j' : Nat} (hg : g' ≠ g) (v : Value) : Row (w.setCell ⟨g', j', none⟩ v) g n f := by
  refine ⟨fun j hj => ?_, fun j hj => by rw [World.frozen?_setCell]; exact h.free j hj, by simpa using h.lt⟩
  rw [World.cell?_setCell_other]
  · exact h.cell j hj
  · intro e; cases e; exact hg rfl

theorem Row.set {w : World} {g n : Nat} {f : Nat → Value} (h : Row w g n f) {j' : Nat} (v : Value) : Row (w.setCell ⟨g, j', none⟩ v) g n (fun j => if j = j' then v else f j) := by
  refine ⟨fun j hj => ?_, fun j hj => by rw [World.frozen?_setCell]; exact h.free j hj, by simpa using h.lt⟩
  by_cases e : j = j'
  · subst e
    rw [if_pos rfl]
    exact World.cell?_setCell_same _ _ _ (h.cell j hj)
  · rw [if_neg e, World.cell?_setCell_other]
    · exact h.cell j hj
    · intro e'; cases e'; exact e rfl

theorem Row.drewN {w : World} {g n : Nat} {f : Nat → Value} (h : Row w g n f) (k : Nat) : Row (w.drewN k) g n f := ⟨h.cell, h.free, h.lt⟩
theorem Row.drew {w : World} {g n : Nat} {f : Nat → Value} (h : Row w g n f) : Row w.drew g n f := ⟨h.cell, h.free, h.lt⟩

end Go.Proofs.Ybulkcbyy
