/- Rows of one-cell elements, said cell by cell; worlds that part in one block alone; a slice's index, whatever its address. -/
import Derived.Test.YbulkccduRows
import Derived.WalkKit
import Derived.WalkSpells
import Derived.WalkLawsBesides
import Derived.Deep.QuietTactic
import Derived.BigQuiet
import Derived.BigRegion
import Derived.Laws.CopyOwn
namespace Go.Proofs.Ybulkccdu
open Go.RowKit

/-- block g holds f 0, .., f (n - 1), and may be written -/
structure Row (w : World) (g n : Nat) (f : Nat → Value) : Prop where
  cell : ∀ j, j < n → w.cell? ⟨g, j, none⟩ = some (f j)
  free : ∀ j, j < n → w.frozen? ⟨g, j, none⟩ = false

/-- w' is w but for block g and for draws -/
structure Only (w w' : World) (g : Nat) : Prop where
  os : w'.os = w.os
  tape : w'.tape = w.tape
  output : w'.output = w.output
  size : w'.heap.size = w.heap.size
  block : ∀ k, k ≠ g → w'.heap[k]? = w.heap[k]?

theorem Only.refl (w : World) (g : Nat) : Only w w g := ⟨rfl, rfl, rfl, rfl, fun _ _ => rfl⟩
theorem Only.drewN {w w' : World} {g : Nat} (h : Only w w' g) (k : Nat) : Only w (w'.drewN k) g := ⟨h.os, h.tape, h.output, h.size, h.block⟩
theorem Only.drew {w w' : World} {g : Nat} (h : Only w w' g) : Only w w'.drew g := ⟨h.os, h.tape, h.output, h.size, h.block⟩
theorem Only.setCell {w w' : World} {g : Nat} (h : Only w w' g) (j : Nat) (v : Value) : Only w (w'.setCell ⟨g, j, none⟩ v) g :=
  ⟨h.os, h.tape, h.output, by rw [World.size_setCell]; exact h.size, fun k hk => (Below.heap_setCell w' ⟨g, j, none⟩ v k hk).trans (h.block k hk)⟩
theorem Only.cell {w w' : World} {g : Nat} (h : Only w w' g) {g' j : Nat} (hg : g' ≠ g) : w'.cell? ⟨g', j, none⟩ = w.cell? ⟨g', j, none⟩ := World.cell?_of_block (w := w) (h.block g' hg)
theorem Only.frozen {w w' : World} {g : Nat} (h : Only w w' g) {g' j : Nat} (hg : g' ≠ g) : w'.frozen? ⟨g', j, none⟩ = w.frozen? ⟨g', j, none⟩ := World.frozen?_of_block (w := w) (h.block g' hg)
theorem Only.below {w0 w w' : World} {B g : Nat} (hb : Below B w0 w) (h : Only w w' g) (hg : B ≤ g) : Below B w0 w' :=
  hb.trans ⟨h.os, h.tape, h.output, by rw [h.size]; exact Nat.le_refl _, fun k hk => h.block k (by omega)⟩

theorem Row.only {w w' : World} {g g' n : Nat} {f : Nat → Value} (h : Row w g n f) (ho : Only w w' g') (hg : g ≠ g') : Row w' g n f :=
  ⟨fun j hj => (ho.cell hg).trans (h.cell j hj), fun j hj => (ho.frozen hg).trans (h.free j hj)⟩
theorem Row.below {w w' : World} {g n B : Nat} {f : Nat → Value} (h : Row w g n f) (hb : Below B w w') (hg : 0 < n → g < B) : Row w' g n f :=
  ⟨fun j hj => (hb.cell (p := ⟨g, j, none⟩) (hg (by omega))).trans (h.cell j hj), fun j hj => (hb.frozen (p := ⟨g, j, none⟩) (hg (by omega))).trans (h.free j hj)⟩
theorem Row.same {w : World} {g n : Nat} {f f' : Nat → Value} (h : Row w g n f) (hf : ∀ j, j < n → f j = f' j) : Row w g n f' :=
  ⟨fun j hj => by rw [← hf j hj]; exact h.cell j hj, h.free⟩
theorem Row.set {w : World} {g n : Nat} {f : Nat → Value} (h : Row w g n f) (j' : Nat) (v : Value) : Row (w.setCell ⟨g, j', none⟩ v) g n (fun j => if j = j' then v else f j) := by
  refine ⟨fun j hj => ?_, fun j hj => by rw [World.frozen?_setCell]; exact h.free j hj⟩
  by_cases e : j = j'
  · subst e
    rw [if_pos rfl]
    exact World.cell?_setCell_same _ _ _ (h.cell j hj)
  · rw [if_neg e, World.cell?_setCell_other]
    · exact h.cell j hj
    · intro e'; cases e'; exact e rfl
theorem Row.drewN {w : World} {g n : Nat} {f : Nat → Value} (h : Row w g n f) (k : Nat) : Row (w.drewN k) g n f := ⟨h.cell, h.free⟩
theorem Row.drew {w : World} {g n : Nat} {f : Nat → Value} (h : Row w g n f) : Row w.drew g n f := ⟨h.cell, h.free⟩

/-- element k of a slice at address ao lies at ⟨g, off + k⟩, for every k below N; nothing is said of the address where N = 0 -/
def At (ao : Option Addr) (g off N : Nat) : Prop :=
  ∀ (k l c : Nat) (W : World), k < N → k < l → (Instr.indexAt 22 (.slice ao l c) (.int .i64 (k : Int))).run Yba.prog W = .ok (.pointer (some ⟨g, off + k, none⟩)) W

theorem at_none (ao : Option Addr) (g off : Nat) : At ao g off 0 := fun k _ _ _ h => by omega
theorem at_some (g off N : Nat) : At (some ⟨g, off, none⟩) g off N := by
  intro k l c W _ hl
  have h1 : (0 : Int) ≤ (k : Int) := by omega
  have h2 : (k : Int) < (l : Int) := by omega
  go_simp
end Go.Proofs.Ybulkccdu
