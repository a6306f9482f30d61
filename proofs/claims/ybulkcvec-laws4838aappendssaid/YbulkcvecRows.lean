/-
  No cell of these rows narrows 'for every input' (looked for: loops, veiled, ifaces, maps, wideKeys, modest, calm, conditions, laid).
  DERIVED. THE GIVEN ROWS OF THIS SEAT. 1 by the template 'for every input the law returns true; each argument reads behind the call as it read before'; 0 by the template 'total and deterministic' (their statements: YbulkcvecTotals.lean).
  GIVEN WITH THE SEED: the statements are not yours to turn. If you find one false, say at which input.
  Laid BY PROGRAM, IN A SANDBOX (cutbox-rows.mjs): the forced cells as the released guide's own fill.sh prints them over the translation 0e477383e0c80def… (all of the seat's roots in one cut). By AI agents, Wed Nov 11 2026. No macro, syntax, notation, axiom, sorry.
-/
import Derived.Test.YbulkcvecChecked
import GoSem.Claim
import GoSem.ClaimJoined
import GoSem.ClaimMapViews
import Derived.JoinedTies
import Derived.KernelRfl
namespace Go.Proofs.Ybulkcvec
/- THE CELL 'sum', in the pinned program and in every row, IS THE sha256 OF THE DUMP (.gsa) THAT YbulkcvecProg.lean LOADS. Nothing in Lean hashes anything: it is a label: what it is worth is what the hold of that sum in a sandbox is worth. -/
noncomputable def Yba.pinned : Pinned := { name := "ybulkcvec", sum := "0e477383e0c80def7b20d07169574c2ce54f536f55a4d450d8ca751619df31d2", checked := Yba.checked }
namespace Rows
def none {H : Type} : Left H := { results := [], args := [] }

/-- 'hunkwright.LawS4838AAppends': WHATEVER THE INPUT: true; the input reads as it did. -/
def lawS4838AAppendsSpec : ChangeSpec := { name := "lawS4838AAppends", fn := fun _ => fun
  | [d1, d2, d3] => { results := [.lit (.bool true)], args := [d1, d2, d3] }
  | _ => none }
def lawS4838AAppendsRow : OpenClaim := { program := "ybulkcvec", sum := "0e477383e0c80def7b20d07169574c2ce54f536f55a4d450d8ca751619df31d2", func := "example.com/hunkwright/hunkwright.LawS4838AAppends", spec := "lawS4838AAppends", apart := false }
def LawS4838AAppendsSaid : Prop := lawS4838AAppendsRow.holds Yba.pinned (OpenSpec.ofChange lawS4838AAppendsSpec)

/-- ITS FALSE NEIGHBOUR: 'it returns false'. Refute it at one input. -/
def lawS4838AAppendsWrong : ChangeSpec := { name := "lawS4838AAppends", fn := fun _ => fun
  | [d1, d2, d3] => { results := [.lit (.bool false)], args := [d1, d2, d3] }
  | _ => none }
def LawS4838AAppendsWrongFalsely : Prop := lawS4838AAppendsRow.holds Yba.pinned (OpenSpec.ofChange lawS4838AAppendsWrong)

end Rows
end Go.Proofs.Ybulkcvec
