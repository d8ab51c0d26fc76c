/-
  No cell of these rows narrows 'for every input' (looked for: loops, veiled, ifaces, maps, wideKeys, modest, calm, conditions, laid).
  DERIVED. THE GIVEN ROWS OF THIS SEAT. 8 by the template 'for every input the law returns true; each argument reads behind the call as it read before'; 0 by the template 'total and deterministic' (their statements: YbulkukiTotals.lean).
  GIVEN WITH THE SEED: the statements are not yours to turn. If you find one false, say at which input.
  Laid BY PROGRAM, IN A SANDBOX (cutbox-rows.mjs): the forced cells as the released guide's own fill.sh prints them over the translation e59c3c41fe301859… (all of the seat's roots in one cut). By AI agents, Wed Nov 11 2026. No macro, syntax, notation, axiom, sorry.
-/
import Derived.Test.YbulkukiChecked
import GoSem.Claim
import GoSem.ClaimJoined
import GoSem.ClaimMapViews
import Derived.JoinedTies
import Derived.KernelRfl
namespace Go.Proofs.Ybulkuki
/- THE CELL 'sum', in the pinned program and in every row, IS THE sha256 OF THE DUMP (.gsa) THAT YbulkukiProg.lean LOADS. Nothing in Lean hashes anything: it is a label: what it is worth is what the hold of that sum in a sandbox is worth. -/
noncomputable def Yba.pinned : Pinned := { name := "ybulkuki", sum := "e59c3c41fe301859fc4a9c91543bc0fa24a99d697b05e84e0f9a301732e0c574", checked := Yba.checked }
namespace Rows
def none {H : Type} : Left H := { results := [], args := [] }

/-- 'halfln2.LawS1035AExact': WHATEVER THE INPUT: true; the input reads as it did. -/
def lawS1035AExactSpec : ChangeSpec := { name := "lawS1035AExact", fn := fun _ => fun
  | [d] => { results := [.lit (.bool true)], args := [d] }
  | _ => none }
def lawS1035AExactRow : OpenClaim := { program := "ybulkuki", sum := "e59c3c41fe301859fc4a9c91543bc0fa24a99d697b05e84e0f9a301732e0c574", func := "example.com/halfln2/halfln2.LawS1035AExact", spec := "lawS1035AExact", apart := false }
def LawS1035AExactSaid : Prop := lawS1035AExactRow.holds Yba.pinned (OpenSpec.ofChange lawS1035AExactSpec)

/-- ITS FALSE NEIGHBOUR: 'it returns false'. Refute it at one input. -/
def lawS1035AExactWrong : ChangeSpec := { name := "lawS1035AExact", fn := fun _ => fun
  | [d] => { results := [.lit (.bool false)], args := [d] }
  | _ => none }
def LawS1035AExactWrongFalsely : Prop := lawS1035AExactRow.holds Yba.pinned (OpenSpec.ofChange lawS1035AExactWrong)

/-- 'halfln2.LawS1035AOneLimb': WHATEVER THE INPUT: true; the input reads as it did. -/
def lawS1035AOneLimbSpec : ChangeSpec := { name := "lawS1035AOneLimb", fn := fun _ => fun
  | [d1, d2] => { results := [.lit (.bool true)], args := [d1, d2] }
  | _ => none }
def lawS1035AOneLimbRow : OpenClaim := { program := "ybulkuki", sum := "e59c3c41fe301859fc4a9c91543bc0fa24a99d697b05e84e0f9a301732e0c574", func := "example.com/halfln2/halfln2.LawS1035AOneLimb", spec := "lawS1035AOneLimb", apart := false }
def LawS1035AOneLimbSaid : Prop := lawS1035AOneLimbRow.holds Yba.pinned (OpenSpec.ofChange lawS1035AOneLimbSpec)

/-- ITS FALSE NEIGHBOUR: 'it returns false'. Refute it at one input. -/
def lawS1035AOneLimbWrong : ChangeSpec := { name := "lawS1035AOneLimb", fn := fun _ => fun
  | [d1, d2] => { results := [.lit (.bool false)], args := [d1, d2] }
  | _ => none }
def LawS1035AOneLimbWrongFalsely : Prop := lawS1035AOneLimbRow.holds Yba.pinned (OpenSpec.ofChange lawS1035AOneLimbWrong)

/-- 'halfln2.LawS1035ASubSelf': WHATEVER THE INPUT: true; the input reads as it did. -/
def lawS1035ASubSelfSpec : ChangeSpec := { name := "lawS1035ASubSelf", fn := fun _ => fun
  | [d] => { results := [.lit (.bool true)], args := [d] }
  | _ => none }
def lawS1035ASubSelfRow : OpenClaim := { program := "ybulkuki", sum := "e59c3c41fe301859fc4a9c91543bc0fa24a99d697b05e84e0f9a301732e0c574", func := "example.com/halfln2/halfln2.LawS1035ASubSelf", spec := "lawS1035ASubSelf", apart := false }
def LawS1035ASubSelfSaid : Prop := lawS1035ASubSelfRow.holds Yba.pinned (OpenSpec.ofChange lawS1035ASubSelfSpec)

/-- ITS FALSE NEIGHBOUR: 'it returns false'. Refute it at one input. -/
def lawS1035ASubSelfWrong : ChangeSpec := { name := "lawS1035ASubSelf", fn := fun _ => fun
  | [d] => { results := [.lit (.bool false)], args := [d] }
  | _ => none }
def LawS1035ASubSelfWrongFalsely : Prop := lawS1035ASubSelfRow.holds Yba.pinned (OpenSpec.ofChange lawS1035ASubSelfWrong)

/-- 'halfln2.LawS1035BBits': WHATEVER THE INPUT: true; the input reads as it did. -/
def lawS1035BBitsSpec : ChangeSpec := { name := "lawS1035BBits", fn := fun _ => fun
  | [d1, d2] => { results := [.lit (.bool true)], args := [d1, d2] }
  | _ => none }
def lawS1035BBitsRow : OpenClaim := { program := "ybulkuki", sum := "e59c3c41fe301859fc4a9c91543bc0fa24a99d697b05e84e0f9a301732e0c574", func := "example.com/halfln2/halfln2.LawS1035BBits", spec := "lawS1035BBits", apart := false }
def LawS1035BBitsSaid : Prop := lawS1035BBitsRow.holds Yba.pinned (OpenSpec.ofChange lawS1035BBitsSpec)

/-- ITS FALSE NEIGHBOUR: 'it returns false'. Refute it at one input. -/
def lawS1035BBitsWrong : ChangeSpec := { name := "lawS1035BBits", fn := fun _ => fun
  | [d1, d2] => { results := [.lit (.bool false)], args := [d1, d2] }
  | _ => none }
def LawS1035BBitsWrongFalsely : Prop := lawS1035BBitsRow.holds Yba.pinned (OpenSpec.ofChange lawS1035BBitsWrong)

/-- 'halfln2.LawS1035BRoundTrip': WHATEVER THE INPUT: true; the input reads as it did. -/
def lawS1035BRoundTripSpec : ChangeSpec := { name := "lawS1035BRoundTrip", fn := fun _ => fun
  | [d1, d2] => { results := [.lit (.bool true)], args := [d1, d2] }
  | _ => none }
def lawS1035BRoundTripRow : OpenClaim := { program := "ybulkuki", sum := "e59c3c41fe301859fc4a9c91543bc0fa24a99d697b05e84e0f9a301732e0c574", func := "example.com/halfln2/halfln2.LawS1035BRoundTrip", spec := "lawS1035BRoundTrip", apart := false }
def LawS1035BRoundTripSaid : Prop := lawS1035BRoundTripRow.holds Yba.pinned (OpenSpec.ofChange lawS1035BRoundTripSpec)

/-- ITS FALSE NEIGHBOUR: 'it returns false'. Refute it at one input. -/
def lawS1035BRoundTripWrong : ChangeSpec := { name := "lawS1035BRoundTrip", fn := fun _ => fun
  | [d1, d2] => { results := [.lit (.bool false)], args := [d1, d2] }
  | _ => none }
def LawS1035BRoundTripWrongFalsely : Prop := lawS1035BRoundTripRow.holds Yba.pinned (OpenSpec.ofChange lawS1035BRoundTripWrong)

/-- 'halfln2.LawS1035CExactSum': WHATEVER THE INPUT: true; the input reads as it did. -/
def lawS1035CExactSumSpec : ChangeSpec := { name := "lawS1035CExactSum", fn := fun _ => fun
  | [d1, d2, d3] => { results := [.lit (.bool true)], args := [d1, d2, d3] }
  | _ => none }
def lawS1035CExactSumRow : OpenClaim := { program := "ybulkuki", sum := "e59c3c41fe301859fc4a9c91543bc0fa24a99d697b05e84e0f9a301732e0c574", func := "example.com/halfln2/halfln2.LawS1035CExactSum", spec := "lawS1035CExactSum", inPlace := ["math.Float64bits", "math.Float64frombits"], apart := false }
def LawS1035CExactSumSaid : Prop := lawS1035CExactSumRow.holds Yba.pinned (OpenSpec.ofChange lawS1035CExactSumSpec)

/-- ITS FALSE NEIGHBOUR: 'it returns false'. Refute it at one input. -/
def lawS1035CExactSumWrong : ChangeSpec := { name := "lawS1035CExactSum", fn := fun _ => fun
  | [d1, d2, d3] => { results := [.lit (.bool false)], args := [d1, d2, d3] }
  | _ => none }
def LawS1035CExactSumWrongFalsely : Prop := lawS1035CExactSumRow.holds Yba.pinned (OpenSpec.ofChange lawS1035CExactSumWrong)

/-- 'halfln2.LawS1035CMonotone': WHATEVER THE INPUT: true; the input reads as it did. -/
def lawS1035CMonotoneSpec : ChangeSpec := { name := "lawS1035CMonotone", fn := fun _ => fun
  | [d1, d2, d3, d4, d5] => { results := [.lit (.bool true)], args := [d1, d2, d3, d4, d5] }
  | _ => none }
def lawS1035CMonotoneRow : OpenClaim := { program := "ybulkuki", sum := "e59c3c41fe301859fc4a9c91543bc0fa24a99d697b05e84e0f9a301732e0c574", func := "example.com/halfln2/halfln2.LawS1035CMonotone", spec := "lawS1035CMonotone", inPlace := ["math.Float64bits", "math.Float64frombits"], apart := false }
def LawS1035CMonotoneSaid : Prop := lawS1035CMonotoneRow.holds Yba.pinned (OpenSpec.ofChange lawS1035CMonotoneSpec)

/-- ITS FALSE NEIGHBOUR: 'it returns false'. Refute it at one input. -/
def lawS1035CMonotoneWrong : ChangeSpec := { name := "lawS1035CMonotone", fn := fun _ => fun
  | [d1, d2, d3, d4, d5] => { results := [.lit (.bool false)], args := [d1, d2, d3, d4, d5] }
  | _ => none }
def LawS1035CMonotoneWrongFalsely : Prop := lawS1035CMonotoneRow.holds Yba.pinned (OpenSpec.ofChange lawS1035CMonotoneWrong)

/-- 'halfln2.LawS1035CTinyErr': WHATEVER THE INPUT: true; the input reads as it did. -/
def lawS1035CTinyErrSpec : ChangeSpec := { name := "lawS1035CTinyErr", fn := fun _ => fun
  | [d1, d2, d3] => { results := [.lit (.bool true)], args := [d1, d2, d3] }
  | _ => none }
def lawS1035CTinyErrRow : OpenClaim := { program := "ybulkuki", sum := "e59c3c41fe301859fc4a9c91543bc0fa24a99d697b05e84e0f9a301732e0c574", func := "example.com/halfln2/halfln2.LawS1035CTinyErr", spec := "lawS1035CTinyErr", inPlace := ["math.Float64bits", "math.Float64frombits"], apart := false }
def LawS1035CTinyErrSaid : Prop := lawS1035CTinyErrRow.holds Yba.pinned (OpenSpec.ofChange lawS1035CTinyErrSpec)

/-- ITS FALSE NEIGHBOUR: 'it returns false'. Refute it at one input. -/
def lawS1035CTinyErrWrong : ChangeSpec := { name := "lawS1035CTinyErr", fn := fun _ => fun
  | [d1, d2, d3] => { results := [.lit (.bool false)], args := [d1, d2, d3] }
  | _ => none }
def LawS1035CTinyErrWrongFalsely : Prop := lawS1035CTinyErrRow.holds Yba.pinned (OpenSpec.ofChange lawS1035CTinyErrWrong)

end Rows
end Go.Proofs.Ybulkuki
