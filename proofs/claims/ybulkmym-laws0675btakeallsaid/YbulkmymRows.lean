/-
  No cell of these rows narrows 'for every input' (looked for: loops, veiled, ifaces, maps, wideKeys, modest, calm, conditions, laid).
  DERIVED. THE GIVEN ROWS OF THIS SEAT. 1 by the template 'for every input the law returns true; each argument reads behind the call as it read before'; 0 by the template 'total and deterministic' (their statements: YbulkmymTotals.lean).
  GIVEN WITH THE SEED: the statements are not yours to turn. If you find one false, say at which input.
  Laid BY PROGRAM, IN A SANDBOX (cutbox-rows.mjs): the forced cells as the released guide's own fill.sh prints them over the translation 42393be4ec31d456… (all of the seat's roots in one cut). By AI agents, Wed Nov 11 2026. No macro, syntax, notation, axiom, sorry.
-/
import Derived.Test.YbulkmymChecked
import GoSem.Claim
import GoSem.ClaimJoined
import GoSem.ClaimMapViews
import Derived.JoinedTies
import Derived.KernelRfl
namespace Go.Proofs.Ybulkmym
/- THE CELL 'sum', in the pinned program and in every row, IS THE sha256 OF THE DUMP (.gsa) THAT YbulkmymProg.lean LOADS. Nothing in Lean hashes anything: it is a label: what it is worth is what the hold of that sum in a sandbox is worth. -/
noncomputable def Yba.pinned : Pinned := { name := "ybulkmym", sum := "42393be4ec31d45676a95ab0191ccefa19343d74f01b190deeb218ba1ffa1e4a", checked := Yba.checked }
namespace Rows
def none {H : Type} : Left H := { results := [], args := [] }

/-- 'rdb.LawS0675BTakeAll': WHATEVER THE INPUT: true; the input reads as it did. -/
def lawS0675BTakeAllSpec : ChangeSpec := { name := "lawS0675BTakeAll", fn := fun _ => fun
  | [d1, d2, d3, d4, d5] => { results := [.lit (.bool true)], args := [d1, d2, d3, d4, d5] }
  | _ => none }
def lawS0675BTakeAllRow : OpenClaim := { program := "ybulkmym", sum := "42393be4ec31d45676a95ab0191ccefa19343d74f01b190deeb218ba1ffa1e4a", func := "example.com/antiphon/antiphon/rdb.LawS0675BTakeAll", spec := "lawS0675BTakeAll", inPlace := ["math.Float64bits"], apart := false }
def LawS0675BTakeAllSaid : Prop := lawS0675BTakeAllRow.holds Yba.pinned (OpenSpec.ofChange lawS0675BTakeAllSpec)

/-- ITS FALSE NEIGHBOUR: 'it returns false'. Refute it at one input. -/
def lawS0675BTakeAllWrong : ChangeSpec := { name := "lawS0675BTakeAll", fn := fun _ => fun
  | [d1, d2, d3, d4, d5] => { results := [.lit (.bool false)], args := [d1, d2, d3, d4, d5] }
  | _ => none }
def LawS0675BTakeAllWrongFalsely : Prop := lawS0675BTakeAllRow.holds Yba.pinned (OpenSpec.ofChange lawS0675BTakeAllWrong)

end Rows
end Go.Proofs.Ybulkmym
