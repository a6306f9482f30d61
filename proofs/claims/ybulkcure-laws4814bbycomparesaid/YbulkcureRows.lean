/-
  No cell of these rows narrows 'for every input' (looked for: loops, veiled, ifaces, maps, wideKeys, modest, calm, conditions, laid).
  DERIVED. THE GIVEN ROWS OF THIS SEAT. 3 by the template 'for every input the law returns true; each argument reads behind the call as it read before'; 0 by the template 'total and deterministic' (their statements: YbulkcureTotals.lean).
  GIVEN WITH THE SEED: the statements are not yours to turn. If you find one false, say at which input.
  Laid BY PROGRAM, IN A SANDBOX (cutbox-rows.mjs): the forced cells as the released guide's own fill.sh prints them over the translation a2ba6b892e1a44b6… (all of the seat's roots in one cut). By AI agents, Wed Nov 11 2026. No macro, syntax, notation, axiom, sorry.
-/
import Derived.Test.YbulkcureChecked
import GoSem.Claim
import GoSem.ClaimJoined
import GoSem.ClaimMapViews
import Derived.JoinedTies
import Derived.KernelRfl
namespace Go.Proofs.Ybulkcure
/- THE CELL 'sum', in the pinned program and in every row, IS THE sha256 OF THE DUMP (.gsa) THAT YbulkcureProg.lean LOADS. Nothing in Lean hashes anything: it is a label: what it is worth is what the hold of that sum in a sandbox is worth. -/
noncomputable def Yba.pinned : Pinned := { name := "ybulkcure", sum := "a2ba6b892e1a44b6625dd40b7cc71f248d69bd9d1c5ff8f77be2727560b91598", checked := Yba.checked }
namespace Rows
def none {H : Type} : Left H := { results := [], args := [] }

/-- 'register.LawS4814BModel': WHATEVER THE INPUT: true; the input reads as it did. -/
def lawS4814BModelSpec : ChangeSpec := { name := "lawS4814BModel", fn := fun _ => fun
  | [d1, d2, d3, d4] => { results := [.lit (.bool true)], args := [d1, d2, d3, d4] }
  | _ => none }
def lawS4814BModelRow : OpenClaim := { program := "ybulkcure", sum := "a2ba6b892e1a44b6625dd40b7cc71f248d69bd9d1c5ff8f77be2727560b91598", func := "example.com/driftquorum/driftquorum/internal/register.LawS4814BModel", spec := "lawS4814BModel", inPlace := ["slices.overlaps[int]"], unfollowed := true, recurses := true, apart := false }
def LawS4814BModelSaid : Prop := lawS4814BModelRow.holds Yba.pinned (OpenSpec.ofChange lawS4814BModelSpec)

/-- ITS FALSE NEIGHBOUR: 'it returns false'. Refute it at one input. -/
def lawS4814BModelWrong : ChangeSpec := { name := "lawS4814BModel", fn := fun _ => fun
  | [d1, d2, d3, d4] => { results := [.lit (.bool false)], args := [d1, d2, d3, d4] }
  | _ => none }
def LawS4814BModelWrongFalsely : Prop := lawS4814BModelRow.holds Yba.pinned (OpenSpec.ofChange lawS4814BModelWrong)

/-- 'register.LawS4814BByCompare': WHATEVER THE INPUT: true; the input reads as it did. -/
def lawS4814BByCompareSpec : ChangeSpec := { name := "lawS4814BByCompare", fn := fun _ => fun
  | [d1, d2, d3, d4] => { results := [.lit (.bool true)], args := [d1, d2, d3, d4] }
  | _ => none }
def lawS4814BByCompareRow : OpenClaim := { program := "ybulkcure", sum := "a2ba6b892e1a44b6625dd40b7cc71f248d69bd9d1c5ff8f77be2727560b91598", func := "example.com/driftquorum/driftquorum/internal/register.LawS4814BByCompare", spec := "lawS4814BByCompare", inPlace := ["slices.overlaps[example.com/driftquorum/driftquorum/internal/register.zzs4814bkv]"], unfollowed := true, recurses := true, apart := false }
def LawS4814BByCompareSaid : Prop := lawS4814BByCompareRow.holds Yba.pinned (OpenSpec.ofChange lawS4814BByCompareSpec)

/-- ITS FALSE NEIGHBOUR: 'it returns false'. Refute it at one input. -/
def lawS4814BByCompareWrong : ChangeSpec := { name := "lawS4814BByCompare", fn := fun _ => fun
  | [d1, d2, d3, d4] => { results := [.lit (.bool false)], args := [d1, d2, d3, d4] }
  | _ => none }
def LawS4814BByCompareWrongFalsely : Prop := lawS4814BByCompareRow.holds Yba.pinned (OpenSpec.ofChange lawS4814BByCompareWrong)

/-- 'transport.LawS4814CExact': WHATEVER THE INPUT: true; the input reads as it did. -/
def lawS4814CExactSpec : ChangeSpec := { name := "lawS4814CExact", fn := fun _ => fun
  | [d1, d2] => { results := [.lit (.bool true)], args := [d1, d2] }
  | _ => none }
def lawS4814CExactRow : OpenClaim := { program := "ybulkcure", sum := "a2ba6b892e1a44b6625dd40b7cc71f248d69bd9d1c5ff8f77be2727560b91598", func := "example.com/driftquorum/driftquorum/internal/transport.LawS4814CExact", spec := "lawS4814CExact", apart := false }
def LawS4814CExactSaid : Prop := lawS4814CExactRow.holds Yba.pinned (OpenSpec.ofChange lawS4814CExactSpec)

/-- ITS FALSE NEIGHBOUR: 'it returns false'. Refute it at one input. -/
def lawS4814CExactWrong : ChangeSpec := { name := "lawS4814CExact", fn := fun _ => fun
  | [d1, d2] => { results := [.lit (.bool false)], args := [d1, d2] }
  | _ => none }
def LawS4814CExactWrongFalsely : Prop := lawS4814CExactRow.holds Yba.pinned (OpenSpec.ofChange lawS4814CExactWrong)

end Rows
end Go.Proofs.Ybulkcure
