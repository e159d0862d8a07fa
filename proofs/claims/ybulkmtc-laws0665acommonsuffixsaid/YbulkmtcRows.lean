/-
  No cell of these rows narrows 'for every input' (looked for: loops, veiled, ifaces, maps, wideKeys, modest, calm, conditions, laid).
  DERIVED. THE GIVEN ROWS OF THIS SEAT. 2 by the template 'for every input the law returns true; each argument reads behind the call as it read before'; 0 by the template 'total and deterministic' (their statements: YbulkmtcTotals.lean).
  GIVEN WITH THE SEED: the statements are not yours to turn. If you find one false, say at which input.
  Laid BY PROGRAM, IN A SANDBOX (cutbox-rows.mjs): the forced cells as the released guide's own fill.sh prints them over the translation eec7fe7617a5f8d0… (all of the seat's roots in one cut). By AI agents, Wed Nov 11 2026. No macro, syntax, notation, axiom, sorry.
-/
import Derived.Test.YbulkmtcChecked
import GoSem.Claim
import GoSem.ClaimJoined
import GoSem.ClaimMapViews
import Derived.JoinedTies
import Derived.KernelRfl
namespace Go.Proofs.Ybulkmtc
/- THE CELL 'sum', in the pinned program and in every row, IS THE sha256 OF THE DUMP (.gsa) THAT YbulkmtcProg.lean LOADS. Nothing in Lean hashes anything: it is a label: what it is worth is what the hold of that sum in a sandbox is worth. -/
noncomputable def Yba.pinned : Pinned := { name := "ybulkmtc", sum := "eec7fe7617a5f8d06234902f7a7fa0d436599383952e1c622166e3c9d601b972", checked := Yba.checked }
namespace Rows
def none {H : Type} : Left H := { results := [], args := [] }

/-- 'patchwright.LawS0665AMatchesNaive': WHATEVER THE INPUT: true; the input reads as it did. -/
def lawS0665AMatchesNaiveSpec : ChangeSpec := { name := "lawS0665AMatchesNaive", fn := fun _ => fun
  | [d1, d2] => { results := [.lit (.bool true)], args := [d1, d2] }
  | _ => none }
def lawS0665AMatchesNaiveRow : OpenClaim := { program := "ybulkmtc", sum := "eec7fe7617a5f8d06234902f7a7fa0d436599383952e1c622166e3c9d601b972", func := "example.com/patchwright/patchwright.LawS0665AMatchesNaive", spec := "lawS0665AMatchesNaive", named := ["encoding/binary.LittleEndian"], apart := false }
def LawS0665AMatchesNaiveSaid : Prop := lawS0665AMatchesNaiveRow.holds Yba.pinned (OpenSpec.ofChange lawS0665AMatchesNaiveSpec)

/-- ITS FALSE NEIGHBOUR: 'it returns false'. Refute it at one input. -/
def lawS0665AMatchesNaiveWrong : ChangeSpec := { name := "lawS0665AMatchesNaive", fn := fun _ => fun
  | [d1, d2] => { results := [.lit (.bool false)], args := [d1, d2] }
  | _ => none }
def LawS0665AMatchesNaiveWrongFalsely : Prop := lawS0665AMatchesNaiveRow.holds Yba.pinned (OpenSpec.ofChange lawS0665AMatchesNaiveWrong)

/-- 'patchwright.LawS0665ACommonSuffix': WHATEVER THE INPUT: true; the input reads as it did. -/
def lawS0665ACommonSuffixSpec : ChangeSpec := { name := "lawS0665ACommonSuffix", fn := fun _ => fun
  | [d1, d2, d3] => { results := [.lit (.bool true)], args := [d1, d2, d3] }
  | _ => none }
def lawS0665ACommonSuffixRow : OpenClaim := { program := "ybulkmtc", sum := "eec7fe7617a5f8d06234902f7a7fa0d436599383952e1c622166e3c9d601b972", func := "example.com/patchwright/patchwright.LawS0665ACommonSuffix", spec := "lawS0665ACommonSuffix", named := ["encoding/binary.LittleEndian"], apart := false }
def LawS0665ACommonSuffixSaid : Prop := lawS0665ACommonSuffixRow.holds Yba.pinned (OpenSpec.ofChange lawS0665ACommonSuffixSpec)

/-- ITS FALSE NEIGHBOUR: 'it returns false'. Refute it at one input. -/
def lawS0665ACommonSuffixWrong : ChangeSpec := { name := "lawS0665ACommonSuffix", fn := fun _ => fun
  | [d1, d2, d3] => { results := [.lit (.bool false)], args := [d1, d2, d3] }
  | _ => none }
def LawS0665ACommonSuffixWrongFalsely : Prop := lawS0665ACommonSuffixRow.holds Yba.pinned (OpenSpec.ofChange lawS0665ACommonSuffixWrong)

end Rows
end Go.Proofs.Ybulkmtc
