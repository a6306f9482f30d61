/-
  No cell of these rows narrows 'for every input' (looked for: loops, veiled, ifaces, maps, wideKeys, modest, calm, conditions, laid).
  DERIVED. THE GIVEN ROWS OF THIS SEAT. 4 by the template 'for every input the law returns true; each argument reads behind the call as it read before'; 0 by the template 'total and deterministic' (their statements: YbulkcuqqTotals.lean).
  GIVEN WITH THE SEED: the statements are not yours to turn. If you find one false, say at which input.
  Laid BY PROGRAM, IN A SANDBOX (cutbox-rows.mjs): the forced cells as the released guide's own fill.sh prints them over the translation d4a71e63732d020c… (all of the seat's roots in one cut). By AI agents, Wed Nov 11 2026. No macro, syntax, notation, axiom, sorry.
-/
import Derived.Test.YbulkcuqqChecked
import GoSem.Claim
import GoSem.ClaimJoined
import GoSem.ClaimMapViews
import Derived.JoinedTies
import Derived.KernelRfl
namespace Go.Proofs.Ybulkcuqq
/- THE CELL 'sum', in the pinned program and in every row, IS THE sha256 OF THE DUMP (.gsa) THAT YbulkcuqqProg.lean LOADS. Nothing in Lean hashes anything: it is a label: what it is worth is what the hold of that sum in a sandbox is worth. -/
noncomputable def Yba.pinned : Pinned := { name := "ybulkcuqq", sum := "d4a71e63732d020cd597bad8ada1ccd7d73f0b9762d54e2314a2cf6736103672", checked := Yba.checked }
namespace Rows
def none {H : Type} : Left H := { results := [], args := [] }

/-- 'cog3.LawS4813AFront': WHATEVER THE INPUT: true; the input reads as it did. -/
def lawS4813AFrontSpec : ChangeSpec := { name := "lawS4813AFront", fn := fun _ => fun
  | [d1, d2, d3, d4, d5] => { results := [.lit (.bool true)], args := [d1, d2, d3, d4, d5] }
  | _ => none }
def lawS4813AFrontRow : OpenClaim := { program := "ybulkcuqq", sum := "d4a71e63732d020cd597bad8ada1ccd7d73f0b9762d54e2314a2cf6736103672", func := "example.com/cog3/cog3.LawS4813AFront", spec := "lawS4813AFront", apart := false }
def LawS4813AFrontSaid : Prop := lawS4813AFrontRow.holds Yba.pinned (OpenSpec.ofChange lawS4813AFrontSpec)

/-- ITS FALSE NEIGHBOUR: 'it returns false'. Refute it at one input. -/
def lawS4813AFrontWrong : ChangeSpec := { name := "lawS4813AFront", fn := fun _ => fun
  | [d1, d2, d3, d4, d5] => { results := [.lit (.bool false)], args := [d1, d2, d3, d4, d5] }
  | _ => none }
def LawS4813AFrontWrongFalsely : Prop := lawS4813AFrontRow.holds Yba.pinned (OpenSpec.ofChange lawS4813AFrontWrong)

/-- 'cog3.LawS4813APushThen': WHATEVER THE INPUT: true; the input reads as it did. -/
def lawS4813APushThenSpec : ChangeSpec := { name := "lawS4813APushThen", fn := fun _ => fun
  | [d1, d2] => { results := [.lit (.bool true)], args := [d1, d2] }
  | _ => none }
def lawS4813APushThenRow : OpenClaim := { program := "ybulkcuqq", sum := "d4a71e63732d020cd597bad8ada1ccd7d73f0b9762d54e2314a2cf6736103672", func := "example.com/cog3/cog3.LawS4813APushThen", spec := "lawS4813APushThen", apart := false }
def LawS4813APushThenSaid : Prop := lawS4813APushThenRow.holds Yba.pinned (OpenSpec.ofChange lawS4813APushThenSpec)

/-- ITS FALSE NEIGHBOUR: 'it returns false'. Refute it at one input. -/
def lawS4813APushThenWrong : ChangeSpec := { name := "lawS4813APushThen", fn := fun _ => fun
  | [d1, d2] => { results := [.lit (.bool false)], args := [d1, d2] }
  | _ => none }
def LawS4813APushThenWrongFalsely : Prop := lawS4813APushThenRow.holds Yba.pinned (OpenSpec.ofChange lawS4813APushThenWrong)

/-- 'cog3.LawS4813BModel': WHATEVER THE INPUT: true; the input reads as it did. -/
def lawS4813BModelSpec : ChangeSpec := { name := "lawS4813BModel", fn := fun _ => fun
  | [d1, d2] => { results := [.lit (.bool true)], args := [d1, d2] }
  | _ => none }
def lawS4813BModelRow : OpenClaim := { program := "ybulkcuqq", sum := "d4a71e63732d020cd597bad8ada1ccd7d73f0b9762d54e2314a2cf6736103672", func := "example.com/cog3/cog3.LawS4813BModel", spec := "lawS4813BModel", apart := false }
def LawS4813BModelSaid : Prop := lawS4813BModelRow.holds Yba.pinned (OpenSpec.ofChange lawS4813BModelSpec)

/-- ITS FALSE NEIGHBOUR: 'it returns false'. Refute it at one input. -/
def lawS4813BModelWrong : ChangeSpec := { name := "lawS4813BModel", fn := fun _ => fun
  | [d1, d2] => { results := [.lit (.bool false)], args := [d1, d2] }
  | _ => none }
def LawS4813BModelWrongFalsely : Prop := lawS4813BModelRow.holds Yba.pinned (OpenSpec.ofChange lawS4813BModelWrong)

/-- 'cog3.LawS4813BDivides': WHATEVER THE INPUT: true; the input reads as it did. -/
def lawS4813BDividesSpec : ChangeSpec := { name := "lawS4813BDivides", fn := fun _ => fun
  | [d1, d2] => { results := [.lit (.bool true)], args := [d1, d2] }
  | _ => none }
def lawS4813BDividesRow : OpenClaim := { program := "ybulkcuqq", sum := "d4a71e63732d020cd597bad8ada1ccd7d73f0b9762d54e2314a2cf6736103672", func := "example.com/cog3/cog3.LawS4813BDivides", spec := "lawS4813BDivides", apart := false }
def LawS4813BDividesSaid : Prop := lawS4813BDividesRow.holds Yba.pinned (OpenSpec.ofChange lawS4813BDividesSpec)

/-- ITS FALSE NEIGHBOUR: 'it returns false'. Refute it at one input. -/
def lawS4813BDividesWrong : ChangeSpec := { name := "lawS4813BDivides", fn := fun _ => fun
  | [d1, d2] => { results := [.lit (.bool false)], args := [d1, d2] }
  | _ => none }
def LawS4813BDividesWrongFalsely : Prop := lawS4813BDividesRow.holds Yba.pinned (OpenSpec.ofChange lawS4813BDividesWrong)

end Rows
end Go.Proofs.Ybulkcuqq
