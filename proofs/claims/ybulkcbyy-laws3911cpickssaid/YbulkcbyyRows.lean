/-
  No cell of these rows narrows 'for every input' (looked for: loops, veiled, ifaces, maps, wideKeys, modest, calm, conditions, laid).
  DERIVED. THE GIVEN ROWS OF THIS SEAT. 3 by the template 'for every input the law returns true; each argument reads behind the call as it read before'; 0 by the template 'total and deterministic' (their statements: YbulkcbyyTotals.lean).
  GIVEN WITH THE SEED: the statements are not yours to turn. If you find one false, say at which input.
  Laid BY PROGRAM, IN A SANDBOX (cutbox-rows.mjs): the forced cells as the released guide's own fill.sh prints them over the translation 97f4e1ccdb5d1810… (all of the seat's roots in one cut). By AI agents, Wed Nov 11 2026. No macro, syntax, notation, axiom, sorry.
-/
import Derived.Test.YbulkcbyyChecked
import GoSem.Claim
import GoSem.ClaimJoined
import GoSem.ClaimMapViews
import Derived.JoinedTies
import Derived.KernelRfl
namespace Go.Proofs.Ybulkcbyy
/- THE CELL 'sum', in the pinned program and in every row, IS THE sha256 OF THE DUMP (.gsa) THAT YbulkcbyyProg.lean LOADS. Nothing in Lean hashes anything: it is a label: what it is worth is what the hold of that sum in a sandbox is worth. -/
noncomputable def Yba.pinned : Pinned := { name := "ybulkcbyy", sum := "97f4e1ccdb5d1810c5d258a3675f2a838e3dd6d09088d9e52053ae7cdfac7fae", checked := Yba.checked }
namespace Rows
def none {H : Type} : Left H := { results := [], args := [] }

/-- 'prices.LawS3911BModel': WHATEVER THE INPUT: true; the input reads as it did. -/
def lawS3911BModelSpec : ChangeSpec := { name := "lawS3911BModel", fn := fun _ => fun
  | [d1, d2, d3, d4, d5] => { results := [.lit (.bool true)], args := [d1, d2, d3, d4, d5] }
  | _ => none }
def lawS3911BModelRow : OpenClaim := { program := "ybulkcbyy", sum := "97f4e1ccdb5d1810c5d258a3675f2a838e3dd6d09088d9e52053ae7cdfac7fae", func := "example.com/ledgerkite/ledgerkite/internal/prices.LawS3911BModel", spec := "lawS3911BModel", unfollowed := true, recurses := true, apart := false }
def LawS3911BModelSaid : Prop := lawS3911BModelRow.holds Yba.pinned (OpenSpec.ofChange lawS3911BModelSpec)

/-- ITS FALSE NEIGHBOUR: 'it returns false'. Refute it at one input. -/
def lawS3911BModelWrong : ChangeSpec := { name := "lawS3911BModel", fn := fun _ => fun
  | [d1, d2, d3, d4, d5] => { results := [.lit (.bool false)], args := [d1, d2, d3, d4, d5] }
  | _ => none }
def LawS3911BModelWrongFalsely : Prop := lawS3911BModelRow.holds Yba.pinned (OpenSpec.ofChange lawS3911BModelWrong)

/-- 'history.LawS3911CPicks': WHATEVER THE INPUT: true; the input reads as it did. -/
def lawS3911CPicksSpec : ChangeSpec := { name := "lawS3911CPicks", fn := fun _ => fun
  | [d1, d2] => { results := [.lit (.bool true)], args := [d1, d2] }
  | _ => none }
def lawS3911CPicksRow : OpenClaim := { program := "ybulkcbyy", sum := "97f4e1ccdb5d1810c5d258a3675f2a838e3dd6d09088d9e52053ae7cdfac7fae", func := "example.com/ledgerkite/ledgerkite/internal/history.LawS3911CPicks", spec := "lawS3911CPicks", apart := false }
def LawS3911CPicksSaid : Prop := lawS3911CPicksRow.holds Yba.pinned (OpenSpec.ofChange lawS3911CPicksSpec)

/-- ITS FALSE NEIGHBOUR: 'it returns false'. Refute it at one input. -/
def lawS3911CPicksWrong : ChangeSpec := { name := "lawS3911CPicks", fn := fun _ => fun
  | [d1, d2] => { results := [.lit (.bool false)], args := [d1, d2] }
  | _ => none }
def LawS3911CPicksWrongFalsely : Prop := lawS3911CPicksRow.holds Yba.pinned (OpenSpec.ofChange lawS3911CPicksWrong)

/-- 'history.LawS3911CUpper': WHATEVER THE INPUT: true; the input reads as it did. -/
def lawS3911CUpperSpec : ChangeSpec := { name := "lawS3911CUpper", fn := fun _ => fun
  | [d1, d2] => { results := [.lit (.bool true)], args := [d1, d2] }
  | _ => none }
def lawS3911CUpperRow : OpenClaim := { program := "ybulkcbyy", sum := "97f4e1ccdb5d1810c5d258a3675f2a838e3dd6d09088d9e52053ae7cdfac7fae", func := "example.com/ledgerkite/ledgerkite/internal/history.LawS3911CUpper", spec := "lawS3911CUpper", apart := false }
def LawS3911CUpperSaid : Prop := lawS3911CUpperRow.holds Yba.pinned (OpenSpec.ofChange lawS3911CUpperSpec)

/-- ITS FALSE NEIGHBOUR: 'it returns false'. Refute it at one input. -/
def lawS3911CUpperWrong : ChangeSpec := { name := "lawS3911CUpper", fn := fun _ => fun
  | [d1, d2] => { results := [.lit (.bool false)], args := [d1, d2] }
  | _ => none }
def LawS3911CUpperWrongFalsely : Prop := lawS3911CUpperRow.holds Yba.pinned (OpenSpec.ofChange lawS3911CUpperWrong)

end Rows
end Go.Proofs.Ybulkcbyy
