/-
  No cell of these rows narrows 'for every input' (looked for: loops, veiled, ifaces, maps, wideKeys, modest, calm, conditions, laid).
  DERIVED. THE GIVEN ROWS OF THIS SEAT. 4 by the template 'for every input the law returns true; each argument reads behind the call as it read before'; 0 by the template 'total and deterministic' (their statements: YbulkcbxiTotals.lean).
  GIVEN WITH THE SEED: the statements are not yours to turn. If you find one false, say at which input.
  Laid BY PROGRAM, IN A SANDBOX (cutbox-rows.mjs): the forced cells as the released guide's own fill.sh prints them over the translation 8dbcb741d9d478e6… (all of the seat's roots in one cut). By AI agents, Wed Nov 11 2026. No macro, syntax, notation, axiom, sorry.
-/
import Derived.Test.YbulkcbxiChecked
import GoSem.Claim
import GoSem.ClaimJoined
import GoSem.ClaimMapViews
import Derived.JoinedTies
import Derived.KernelRfl
namespace Go.Proofs.Ybulkcbxi
/- THE CELL 'sum', in the pinned program and in every row, IS THE sha256 OF THE DUMP (.gsa) THAT YbulkcbxiProg.lean LOADS. Nothing in Lean hashes anything: it is a label: what it is worth is what the hold of that sum in a sandbox is worth. -/
noncomputable def Yba.pinned : Pinned := { name := "ybulkcbxi", sum := "8dbcb741d9d478e60e85bb86ee6d0161138837ffb6fe94b6bd793371eb2f4ae6", checked := Yba.checked }
namespace Rows
def none {H : Type} : Left H := { results := [], args := [] }

/-- 'gatewright.LawS3908AModel': WHATEVER THE INPUT: true; the input reads as it did. -/
def lawS3908AModelSpec : ChangeSpec := { name := "lawS3908AModel", fn := fun _ => fun
  | [d] => { results := [.lit (.bool true)], args := [d] }
  | _ => none }
def lawS3908AModelRow : OpenClaim := { program := "ybulkcbxi", sum := "8dbcb741d9d478e60e85bb86ee6d0161138837ffb6fe94b6bd793371eb2f4ae6", func := "example.com/gatewright/gatewright.LawS3908AModel", spec := "lawS3908AModel", apart := false }
def LawS3908AModelSaid : Prop := lawS3908AModelRow.holds Yba.pinned (OpenSpec.ofChange lawS3908AModelSpec)

/-- ITS FALSE NEIGHBOUR: 'it returns false'. Refute it at one input. -/
def lawS3908AModelWrong : ChangeSpec := { name := "lawS3908AModel", fn := fun _ => fun
  | [d] => { results := [.lit (.bool false)], args := [d] }
  | _ => none }
def LawS3908AModelWrongFalsely : Prop := lawS3908AModelRow.holds Yba.pinned (OpenSpec.ofChange lawS3908AModelWrong)

/-- 'gatewright.LawS3908ABuilt': WHATEVER THE INPUT: true; the input reads as it did. -/
def lawS3908ABuiltSpec : ChangeSpec := { name := "lawS3908ABuilt", fn := fun _ => fun
  | [d1, d2, d3] => { results := [.lit (.bool true)], args := [d1, d2, d3] }
  | _ => none }
def lawS3908ABuiltRow : OpenClaim := { program := "ybulkcbxi", sum := "8dbcb741d9d478e60e85bb86ee6d0161138837ffb6fe94b6bd793371eb2f4ae6", func := "example.com/gatewright/gatewright.LawS3908ABuilt", spec := "lawS3908ABuilt", apart := false }
def LawS3908ABuiltSaid : Prop := lawS3908ABuiltRow.holds Yba.pinned (OpenSpec.ofChange lawS3908ABuiltSpec)

/-- ITS FALSE NEIGHBOUR: 'it returns false'. Refute it at one input. -/
def lawS3908ABuiltWrong : ChangeSpec := { name := "lawS3908ABuilt", fn := fun _ => fun
  | [d1, d2, d3] => { results := [.lit (.bool false)], args := [d1, d2, d3] }
  | _ => none }
def LawS3908ABuiltWrongFalsely : Prop := lawS3908ABuiltRow.holds Yba.pinned (OpenSpec.ofChange lawS3908ABuiltWrong)

/-- 'jsonvalue.LawS3908CFirst': WHATEVER THE INPUT: true; the input reads as it did. -/
def lawS3908CFirstSpec : ChangeSpec := { name := "lawS3908CFirst", fn := fun _ => fun
  | [d1, d2, d3] => { results := [.lit (.bool true)], args := [d1, d2, d3] }
  | _ => none }
def lawS3908CFirstRow : OpenClaim := { program := "ybulkcbxi", sum := "8dbcb741d9d478e60e85bb86ee6d0161138837ffb6fe94b6bd793371eb2f4ae6", func := "example.com/gatewright/gatewright/internal/jsonvalue.LawS3908CFirst", spec := "lawS3908CFirst", inPlace := ["internal/abi.NoEscape", "internal/bytealg.MakeNoZero"], apart := false }
def LawS3908CFirstSaid : Prop := lawS3908CFirstRow.holds Yba.pinned (OpenSpec.ofChange lawS3908CFirstSpec)

/-- ITS FALSE NEIGHBOUR: 'it returns false'. Refute it at one input. -/
def lawS3908CFirstWrong : ChangeSpec := { name := "lawS3908CFirst", fn := fun _ => fun
  | [d1, d2, d3] => { results := [.lit (.bool false)], args := [d1, d2, d3] }
  | _ => none }
def LawS3908CFirstWrongFalsely : Prop := lawS3908CFirstRow.holds Yba.pinned (OpenSpec.ofChange lawS3908CFirstWrong)

/-- 'jsonvalue.LawS3908CNotObject': WHATEVER THE INPUT: true; the input reads as it did. -/
def lawS3908CNotObjectSpec : ChangeSpec := { name := "lawS3908CNotObject", fn := fun _ => fun
  | [d1, d2, d3, d4, d5] => { results := [.lit (.bool true)], args := [d1, d2, d3, d4, d5] }
  | _ => none }
def lawS3908CNotObjectRow : OpenClaim := { program := "ybulkcbxi", sum := "8dbcb741d9d478e60e85bb86ee6d0161138837ffb6fe94b6bd793371eb2f4ae6", func := "example.com/gatewright/gatewright/internal/jsonvalue.LawS3908CNotObject", spec := "lawS3908CNotObject", inPlace := ["internal/abi.NoEscape", "internal/bytealg.MakeNoZero"], apart := false }
def LawS3908CNotObjectSaid : Prop := lawS3908CNotObjectRow.holds Yba.pinned (OpenSpec.ofChange lawS3908CNotObjectSpec)

/-- ITS FALSE NEIGHBOUR: 'it returns false'. Refute it at one input. -/
def lawS3908CNotObjectWrong : ChangeSpec := { name := "lawS3908CNotObject", fn := fun _ => fun
  | [d1, d2, d3, d4, d5] => { results := [.lit (.bool false)], args := [d1, d2, d3, d4, d5] }
  | _ => none }
def LawS3908CNotObjectWrongFalsely : Prop := lawS3908CNotObjectRow.holds Yba.pinned (OpenSpec.ofChange lawS3908CNotObjectWrong)

end Rows
end Go.Proofs.Ybulkcbxi
