/-
  No cell of these rows narrows 'for every input' (looked for: loops, veiled, ifaces, maps, wideKeys, modest, calm, conditions, laid).
  DERIVED. THE GIVEN ROWS OF THIS SEAT. 2 by the template 'for every input the law returns true; each argument reads behind the call as it read before'; 0 by the template 'total and deterministic' (their statements: YbulkccduTotals.lean).
  GIVEN WITH THE SEED: the statements are not yours to turn. If you find one false, say at which input.
  Laid BY PROGRAM, IN A SANDBOX (cutbox-rows.mjs): the forced cells as the released guide's own fill.sh prints them over the translation 7c0be7d97e0ad53f… (all of the seat's roots in one cut). By AI agents, Wed Nov 11 2026. No macro, syntax, notation, axiom, sorry.
-/
import Derived.Test.YbulkccduChecked
import GoSem.Claim
import GoSem.ClaimJoined
import GoSem.ClaimMapViews
import Derived.JoinedTies
import Derived.KernelRfl
namespace Go.Proofs.Ybulkccdu
/- THE CELL 'sum', in the pinned program and in every row, IS THE sha256 OF THE DUMP (.gsa) THAT YbulkccduProg.lean LOADS. Nothing in Lean hashes anything: it is a label: what it is worth is what the hold of that sum in a sandbox is worth. -/
noncomputable def Yba.pinned : Pinned := { name := "ybulkccdu", sum := "7c0be7d97e0ad53f09b60b0930da16805345ebce4ff4f7e09b2b0dd408ecb04c", checked := Yba.checked }
namespace Rows
def none {H : Type} : Left H := { results := [], args := [] }

/-- 'generic.LawS3920BModel': WHATEVER THE INPUT: true; the input reads as it did. -/
def lawS3920BModelSpec : ChangeSpec := { name := "lawS3920BModel", fn := fun _ => fun
  | [d1, d2, d3] => { results := [.lit (.bool true)], args := [d1, d2, d3] }
  | _ => none }
def lawS3920BModelRow : OpenClaim := { program := "ybulkccdu", sum := "7c0be7d97e0ad53f09b60b0930da16805345ebce4ff4f7e09b2b0dd408ecb04c", func := "example.com/lanewise/lanewise/internal/generic.LawS3920BModel", spec := "lawS3920BModel", apart := false }
def LawS3920BModelSaid : Prop := lawS3920BModelRow.holds Yba.pinned (OpenSpec.ofChange lawS3920BModelSpec)

/-- ITS FALSE NEIGHBOUR: 'it returns false'. Refute it at one input. -/
def lawS3920BModelWrong : ChangeSpec := { name := "lawS3920BModel", fn := fun _ => fun
  | [d1, d2, d3] => { results := [.lit (.bool false)], args := [d1, d2, d3] }
  | _ => none }
def LawS3920BModelWrongFalsely : Prop := lawS3920BModelRow.holds Yba.pinned (OpenSpec.ofChange lawS3920BModelWrong)

/-- 'generic.LawS3920BInPlace': WHATEVER THE INPUT: true; the input reads as it did. -/
def lawS3920BInPlaceSpec : ChangeSpec := { name := "lawS3920BInPlace", fn := fun _ => fun
  | [d1, d2] => { results := [.lit (.bool true)], args := [d1, d2] }
  | _ => none }
def lawS3920BInPlaceRow : OpenClaim := { program := "ybulkccdu", sum := "7c0be7d97e0ad53f09b60b0930da16805345ebce4ff4f7e09b2b0dd408ecb04c", func := "example.com/lanewise/lanewise/internal/generic.LawS3920BInPlace", spec := "lawS3920BInPlace", apart := false }
def LawS3920BInPlaceSaid : Prop := lawS3920BInPlaceRow.holds Yba.pinned (OpenSpec.ofChange lawS3920BInPlaceSpec)

/-- ITS FALSE NEIGHBOUR: 'it returns false'. Refute it at one input. -/
def lawS3920BInPlaceWrong : ChangeSpec := { name := "lawS3920BInPlace", fn := fun _ => fun
  | [d1, d2] => { results := [.lit (.bool false)], args := [d1, d2] }
  | _ => none }
def LawS3920BInPlaceWrongFalsely : Prop := lawS3920BInPlaceRow.holds Yba.pinned (OpenSpec.ofChange lawS3920BInPlaceWrong)

end Rows
end Go.Proofs.Ybulkccdu
