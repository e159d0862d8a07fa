/-
  No cell of these rows narrows 'for every input' (looked for: loops, veiled, ifaces, maps, wideKeys, modest, calm, conditions, laid).
  DERIVED. THE GIVEN ROWS OF THIS SEAT. 3 by the template 'for every input the law returns true; each argument reads behind the call as it read before'; 0 by the template 'total and deterministic' (their statements: YbulkmrmTotals.lean).
  GIVEN WITH THE SEED: the statements are not yours to turn. If you find one false, say at which input.
  Laid BY PROGRAM, IN A SANDBOX (cutbox-rows.mjs): the forced cells as the released guide's own fill.sh prints them over the translation 6a960365ad89576f… (all of the seat's roots in one cut). By AI agents, Wed Nov 11 2026. No macro, syntax, notation, axiom, sorry.
-/
import Derived.Test.YbulkmrmChecked
import GoSem.Claim
import GoSem.ClaimJoined
import GoSem.ClaimMapViews
import Derived.JoinedTies
import Derived.KernelRfl
namespace Go.Proofs.Ybulkmrm
/- THE CELL 'sum', in the pinned program and in every row, IS THE sha256 OF THE DUMP (.gsa) THAT YbulkmrmProg.lean LOADS. Nothing in Lean hashes anything: it is a label: what it is worth is what the hold of that sum in a sandbox is worth. -/
noncomputable def Yba.pinned : Pinned := { name := "ybulkmrm", sum := "6a960365ad89576fbea395a6839e32b76f907e1984046b8fd5b0068f0a3623d4", checked := Yba.checked }
namespace Rows
def none {H : Type} : Left H := { results := [], args := [] }

/-- 'spanloom.LawS0662AMax': WHATEVER THE INPUT: true; the input reads as it did. -/
def lawS0662AMaxSpec : ChangeSpec := { name := "lawS0662AMax", fn := fun _ => fun
  | [d1, d2] => { results := [.lit (.bool true)], args := [d1, d2] }
  | _ => none }
def lawS0662AMaxRow : OpenClaim := { program := "ybulkmrm", sum := "6a960365ad89576fbea395a6839e32b76f907e1984046b8fd5b0068f0a3623d4", func := "example.com/spanloom/spanloom.LawS0662AMax", spec := "lawS0662AMax", plainKeys := false, apart := false }
def LawS0662AMaxSaid : Prop := lawS0662AMaxRow.holds Yba.pinned (OpenSpec.ofChange lawS0662AMaxSpec)

/-- ITS FALSE NEIGHBOUR: 'it returns false'. Refute it at one input. -/
def lawS0662AMaxWrong : ChangeSpec := { name := "lawS0662AMax", fn := fun _ => fun
  | [d1, d2] => { results := [.lit (.bool false)], args := [d1, d2] }
  | _ => none }
def LawS0662AMaxWrongFalsely : Prop := lawS0662AMaxRow.holds Yba.pinned (OpenSpec.ofChange lawS0662AMaxWrong)

/-- 'spanloom.LawS0662AMonotone': WHATEVER THE INPUT: true; the input reads as it did. -/
def lawS0662AMonotoneSpec : ChangeSpec := { name := "lawS0662AMonotone", fn := fun _ => fun
  | [d1, d2, d3] => { results := [.lit (.bool true)], args := [d1, d2, d3] }
  | _ => none }
def lawS0662AMonotoneRow : OpenClaim := { program := "ybulkmrm", sum := "6a960365ad89576fbea395a6839e32b76f907e1984046b8fd5b0068f0a3623d4", func := "example.com/spanloom/spanloom.LawS0662AMonotone", spec := "lawS0662AMonotone", plainKeys := false, apart := false }
def LawS0662AMonotoneSaid : Prop := lawS0662AMonotoneRow.holds Yba.pinned (OpenSpec.ofChange lawS0662AMonotoneSpec)

/-- ITS FALSE NEIGHBOUR: 'it returns false'. Refute it at one input. -/
def lawS0662AMonotoneWrong : ChangeSpec := { name := "lawS0662AMonotone", fn := fun _ => fun
  | [d1, d2, d3] => { results := [.lit (.bool false)], args := [d1, d2, d3] }
  | _ => none }
def LawS0662AMonotoneWrongFalsely : Prop := lawS0662AMonotoneRow.holds Yba.pinned (OpenSpec.ofChange lawS0662AMonotoneWrong)

/-- 'spanloom.LawS0662CDone': WHATEVER THE INPUT: true; the input reads as it did. -/
def lawS0662CDoneSpec : ChangeSpec := { name := "lawS0662CDone", fn := fun _ => fun
  | [d1, d2, d3, d4] => { results := [.lit (.bool true)], args := [d1, d2, d3, d4] }
  | _ => none }
def lawS0662CDoneRow : OpenClaim := { program := "ybulkmrm", sum := "6a960365ad89576fbea395a6839e32b76f907e1984046b8fd5b0068f0a3623d4", func := "example.com/spanloom/spanloom.LawS0662CDone", spec := "lawS0662CDone", plainKeys := false, apart := false }
def LawS0662CDoneSaid : Prop := lawS0662CDoneRow.holds Yba.pinned (OpenSpec.ofChange lawS0662CDoneSpec)

/-- ITS FALSE NEIGHBOUR: 'it returns false'. Refute it at one input. -/
def lawS0662CDoneWrong : ChangeSpec := { name := "lawS0662CDone", fn := fun _ => fun
  | [d1, d2, d3, d4] => { results := [.lit (.bool false)], args := [d1, d2, d3, d4] }
  | _ => none }
def LawS0662CDoneWrongFalsely : Prop := lawS0662CDoneRow.holds Yba.pinned (OpenSpec.ofChange lawS0662CDoneWrong)

end Rows
end Go.Proofs.Ybulkmrm
