/-
  No cell of these rows narrows 'for every input' (looked for: loops, veiled, ifaces, maps, wideKeys, modest, calm, conditions, laid).
  DERIVED. THE GIVEN ROWS OF THIS SEAT. 4 by the template 'for every input the law returns true; each argument reads behind the call as it read before'; 0 by the template 'total and deterministic' (their statements: Qxb6618565aTotals.lean).
  GIVEN WITH THE SEED: the statements are not yours to turn. If you find one false, say at which input.
  Laid BY PROGRAM, IN A SANDBOX (cutbox-rows.mjs): the forced cells as the released guide's own fill.sh prints them over the translation f7a864471e163af5… (all of the seat's roots in one cut). By AI agents, Wed Nov 11 2026. No macro, syntax, notation, axiom, sorry.
-/
import Derived.Test.Qxb6618565aChecked
import GoSem.Claim
import GoSem.ClaimJoined
import GoSem.ClaimMapViews
import Derived.JoinedTies
import Derived.KernelRfl
namespace Go.Proofs.Qxb6618565a
/- THE CELL 'sum', in the pinned program and in every row, IS THE sha256 OF THE DUMP (.gsa) THAT Qxb6618565aProg.lean LOADS. Nothing in Lean hashes anything: it is a label: what it is worth is what the hold of that sum in a sandbox is worth. -/
noncomputable def Try.pinned : Pinned := { name := "qxb6618565a", sum := "f7a864471e163af55a0e958b1b51184f8707e704be93a22053b593dbfb8960fb", checked := Try.checked }
namespace Rows
def none {H : Type} : Left H := { results := [], args := [] }

/-- 'zzlaws_trace_b1.FnSendTwoOrdersAgreeUnlessTheyShareAnIndex': WHATEVER THE INPUT: true; the input reads as it did. -/
def fnSendTwoOrdersAgreeUnlessTheyShareAnIndexSpec : ChangeSpec := { name := "fnSendTwoOrdersAgreeUnlessTheyShareAnIndex", fn := fun _ => fun
  | [d1, d2, d3, d4, d5, d6, d7, d8, d9] => { results := [.lit (.bool true)], args := [d1, d2, d3, d4, d5, d6, d7, d8, d9] }
  | _ => none }
def fnSendTwoOrdersAgreeUnlessTheyShareAnIndexRow : OpenClaim := { program := "qxb6618565a", sum := "f7a864471e163af55a0e958b1b51184f8707e704be93a22053b593dbfb8960fb", func := "example.com/happenstance/happenstance/zzlaws_trace_b1.FnSendTwoOrdersAgreeUnlessTheyShareAnIndex", spec := "fnSendTwoOrdersAgreeUnlessTheyShareAnIndex", apart := false }
def FnSendTwoOrdersAgreeUnlessTheyShareAnIndexSaid : Prop := fnSendTwoOrdersAgreeUnlessTheyShareAnIndexRow.holds Try.pinned (OpenSpec.ofChange fnSendTwoOrdersAgreeUnlessTheyShareAnIndexSpec)

/-- ITS FALSE NEIGHBOUR: 'it returns false'. Refute it at one input. -/
def fnSendTwoOrdersAgreeUnlessTheyShareAnIndexWrong : ChangeSpec := { name := "fnSendTwoOrdersAgreeUnlessTheyShareAnIndex", fn := fun _ => fun
  | [d1, d2, d3, d4, d5, d6, d7, d8, d9] => { results := [.lit (.bool false)], args := [d1, d2, d3, d4, d5, d6, d7, d8, d9] }
  | _ => none }
def FnSendTwoOrdersAgreeUnlessTheyShareAnIndexWrongFalsely : Prop := fnSendTwoOrdersAgreeUnlessTheyShareAnIndexRow.holds Try.pinned (OpenSpec.ofChange fnSendTwoOrdersAgreeUnlessTheyShareAnIndexWrong)

/-- 'zzlaws_trace_b1.FnSendScriptKeepsTheLastFlightAndTakesAReferenceEach': WHATEVER THE INPUT: true; the input reads as it did. -/
def fnSendScriptKeepsTheLastFlightAndTakesAReferenceEachSpec : ChangeSpec := { name := "fnSendScriptKeepsTheLastFlightAndTakesAReferenceEach", fn := fun _ => fun
  | [d1, d2] => { results := [.lit (.bool true)], args := [d1, d2] }
  | _ => none }
def fnSendScriptKeepsTheLastFlightAndTakesAReferenceEachRow : OpenClaim := { program := "qxb6618565a", sum := "f7a864471e163af55a0e958b1b51184f8707e704be93a22053b593dbfb8960fb", func := "example.com/happenstance/happenstance/zzlaws_trace_b1.FnSendScriptKeepsTheLastFlightAndTakesAReferenceEach", spec := "fnSendScriptKeepsTheLastFlightAndTakesAReferenceEach", apart := false }
def FnSendScriptKeepsTheLastFlightAndTakesAReferenceEachSaid : Prop := fnSendScriptKeepsTheLastFlightAndTakesAReferenceEachRow.holds Try.pinned (OpenSpec.ofChange fnSendScriptKeepsTheLastFlightAndTakesAReferenceEachSpec)

/-- ITS FALSE NEIGHBOUR: 'it returns false'. Refute it at one input. -/
def fnSendScriptKeepsTheLastFlightAndTakesAReferenceEachWrong : ChangeSpec := { name := "fnSendScriptKeepsTheLastFlightAndTakesAReferenceEach", fn := fun _ => fun
  | [d1, d2] => { results := [.lit (.bool false)], args := [d1, d2] }
  | _ => none }
def FnSendScriptKeepsTheLastFlightAndTakesAReferenceEachWrongFalsely : Prop := fnSendScriptKeepsTheLastFlightAndTakesAReferenceEachRow.holds Try.pinned (OpenSpec.ofChange fnSendScriptKeepsTheLastFlightAndTakesAReferenceEachWrong)

/-- 'zzlaws_trace_b1.FnNewJudgeCountsOneEventMore': WHATEVER THE INPUT: true; the input reads as it did. -/
def fnNewJudgeCountsOneEventMoreSpec : ChangeSpec := { name := "fnNewJudgeCountsOneEventMore", fn := fun _ => fun
  | [d1, d2, d3, d4] => { results := [.lit (.bool true)], args := [d1, d2, d3, d4] }
  | _ => none }
def fnNewJudgeCountsOneEventMoreRow : OpenClaim := { program := "qxb6618565a", sum := "f7a864471e163af55a0e958b1b51184f8707e704be93a22053b593dbfb8960fb", func := "example.com/happenstance/happenstance/zzlaws_trace_b1.FnNewJudgeCountsOneEventMore", spec := "fnNewJudgeCountsOneEventMore", apart := false }
def FnNewJudgeCountsOneEventMoreSaid : Prop := fnNewJudgeCountsOneEventMoreRow.holds Try.pinned (OpenSpec.ofChange fnNewJudgeCountsOneEventMoreSpec)

/-- ITS FALSE NEIGHBOUR: 'it returns false'. Refute it at one input. -/
def fnNewJudgeCountsOneEventMoreWrong : ChangeSpec := { name := "fnNewJudgeCountsOneEventMore", fn := fun _ => fun
  | [d1, d2, d3, d4] => { results := [.lit (.bool false)], args := [d1, d2, d3, d4] }
  | _ => none }
def FnNewJudgeCountsOneEventMoreWrongFalsely : Prop := fnNewJudgeCountsOneEventMoreRow.holds Try.pinned (OpenSpec.ofChange fnNewJudgeCountsOneEventMoreWrong)

/-- 'zzlaws_trace_b1.FnNewJudgeCountsPairsAcrossAnyCut': WHATEVER THE INPUT: true; the input reads as it did. -/
def fnNewJudgeCountsPairsAcrossAnyCutSpec : ChangeSpec := { name := "fnNewJudgeCountsPairsAcrossAnyCut", fn := fun _ => fun
  | [d1, d2, d3, d4] => { results := [.lit (.bool true)], args := [d1, d2, d3, d4] }
  | _ => none }
def fnNewJudgeCountsPairsAcrossAnyCutRow : OpenClaim := { program := "qxb6618565a", sum := "f7a864471e163af55a0e958b1b51184f8707e704be93a22053b593dbfb8960fb", func := "example.com/happenstance/happenstance/zzlaws_trace_b1.FnNewJudgeCountsPairsAcrossAnyCut", spec := "fnNewJudgeCountsPairsAcrossAnyCut", apart := false }
def FnNewJudgeCountsPairsAcrossAnyCutSaid : Prop := fnNewJudgeCountsPairsAcrossAnyCutRow.holds Try.pinned (OpenSpec.ofChange fnNewJudgeCountsPairsAcrossAnyCutSpec)

/-- ITS FALSE NEIGHBOUR: 'it returns false'. Refute it at one input. -/
def fnNewJudgeCountsPairsAcrossAnyCutWrong : ChangeSpec := { name := "fnNewJudgeCountsPairsAcrossAnyCut", fn := fun _ => fun
  | [d1, d2, d3, d4] => { results := [.lit (.bool false)], args := [d1, d2, d3, d4] }
  | _ => none }
def FnNewJudgeCountsPairsAcrossAnyCutWrongFalsely : Prop := fnNewJudgeCountsPairsAcrossAnyCutRow.holds Try.pinned (OpenSpec.ofChange fnNewJudgeCountsPairsAcrossAnyCutWrong)

end Rows
end Go.Proofs.Qxb6618565a
