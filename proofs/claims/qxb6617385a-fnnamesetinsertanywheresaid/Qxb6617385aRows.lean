/-
  No cell of these rows narrows 'for every input' (looked for: loops, veiled, ifaces, maps, wideKeys, modest, calm, conditions, laid).
  DERIVED. THE GIVEN ROWS OF THIS SEAT. 3 by the template 'for every input the law returns true; each argument reads behind the call as it read before'; 0 by the template 'total and deterministic' (their statements: Qxb6617385aTotals.lean).
  GIVEN WITH THE SEED: the statements are not yours to turn. If you find one false, say at which input.
  Laid BY PROGRAM, IN A SANDBOX (cutbox-rows.mjs): the forced cells as the released guide's own fill.sh prints them over the translation 4c229642b0b9f428… (all of the seat's roots in one cut). By AI agents, Wed Nov 11 2026. No macro, syntax, notation, axiom, sorry.
-/
import Derived.Test.Qxb6617385aChecked
import GoSem.Claim
import GoSem.ClaimJoined
import GoSem.ClaimMapViews
import Derived.JoinedTies
import Derived.KernelRfl
namespace Go.Proofs.Qxb6617385a
/- THE CELL 'sum', in the pinned program and in every row, IS THE sha256 OF THE DUMP (.gsa) THAT Qxb6617385aProg.lean LOADS. Nothing in Lean hashes anything: it is a label: what it is worth is what the hold of that sum in a sandbox is worth. -/
noncomputable def Try.pinned : Pinned := { name := "qxb6617385a", sum := "4c229642b0b9f4286efb07ccef6dd642d55d65b9d7c7d7c9f37a934ffa03f79d", checked := Try.checked }
namespace Rows
def none {H : Type} : Left H := { results := [], args := [] }

/-- 'zzlaws_convert_b1.FnScopeRecordReadsBack': WHATEVER THE INPUT: true; the input reads as it did. -/
def fnScopeRecordReadsBackSpec : ChangeSpec := { name := "fnScopeRecordReadsBack", fn := fun _ => fun
  | [d1, d2, d3] => { results := [.lit (.bool true)], args := [d1, d2, d3] }
  | _ => none }
def fnScopeRecordReadsBackRow : OpenClaim := { program := "qxb6617385a", sum := "4c229642b0b9f4286efb07ccef6dd642d55d65b9d7c7d7c9f37a934ffa03f79d", func := "example.com/hashbridge/hashbridge/zzlaws_convert_b1.FnScopeRecordReadsBack", spec := "fnScopeRecordReadsBack", apart := false }
def FnScopeRecordReadsBackSaid : Prop := fnScopeRecordReadsBackRow.holds Try.pinned (OpenSpec.ofChange fnScopeRecordReadsBackSpec)

/-- ITS FALSE NEIGHBOUR: 'it returns false'. Refute it at one input. -/
def fnScopeRecordReadsBackWrong : ChangeSpec := { name := "fnScopeRecordReadsBack", fn := fun _ => fun
  | [d1, d2, d3] => { results := [.lit (.bool false)], args := [d1, d2, d3] }
  | _ => none }
def FnScopeRecordReadsBackWrongFalsely : Prop := fnScopeRecordReadsBackRow.holds Try.pinned (OpenSpec.ofChange fnScopeRecordReadsBackWrong)

/-- 'zzlaws_convert_b1.FnScopeRecordLinesAreDistinct': WHATEVER THE INPUT: true; the input reads as it did. -/
def fnScopeRecordLinesAreDistinctSpec : ChangeSpec := { name := "fnScopeRecordLinesAreDistinct", fn := fun _ => fun
  | [d1, d2, d3] => { results := [.lit (.bool true)], args := [d1, d2, d3] }
  | _ => none }
def fnScopeRecordLinesAreDistinctRow : OpenClaim := { program := "qxb6617385a", sum := "4c229642b0b9f4286efb07ccef6dd642d55d65b9d7c7d7c9f37a934ffa03f79d", func := "example.com/hashbridge/hashbridge/zzlaws_convert_b1.FnScopeRecordLinesAreDistinct", spec := "fnScopeRecordLinesAreDistinct", apart := false }
def FnScopeRecordLinesAreDistinctSaid : Prop := fnScopeRecordLinesAreDistinctRow.holds Try.pinned (OpenSpec.ofChange fnScopeRecordLinesAreDistinctSpec)

/-- ITS FALSE NEIGHBOUR: 'it returns false'. Refute it at one input. -/
def fnScopeRecordLinesAreDistinctWrong : ChangeSpec := { name := "fnScopeRecordLinesAreDistinct", fn := fun _ => fun
  | [d1, d2, d3] => { results := [.lit (.bool false)], args := [d1, d2, d3] }
  | _ => none }
def FnScopeRecordLinesAreDistinctWrongFalsely : Prop := fnScopeRecordLinesAreDistinctRow.holds Try.pinned (OpenSpec.ofChange fnScopeRecordLinesAreDistinctWrong)

/-- 'zzlaws_convert_b1.FnNameSetInsertAnywhere': WHATEVER THE INPUT: true; the input reads as it did. -/
def fnNameSetInsertAnywhereSpec : ChangeSpec := { name := "fnNameSetInsertAnywhere", fn := fun _ => fun
  | [d1, d2, d3] => { results := [.lit (.bool true)], args := [d1, d2, d3] }
  | _ => none }
def fnNameSetInsertAnywhereRow : OpenClaim := { program := "qxb6617385a", sum := "4c229642b0b9f4286efb07ccef6dd642d55d65b9d7c7d7c9f37a934ffa03f79d", func := "example.com/hashbridge/hashbridge/zzlaws_convert_b1.FnNameSetInsertAnywhere", spec := "fnNameSetInsertAnywhere", apart := false }
def FnNameSetInsertAnywhereSaid : Prop := fnNameSetInsertAnywhereRow.holds Try.pinned (OpenSpec.ofChange fnNameSetInsertAnywhereSpec)

/-- ITS FALSE NEIGHBOUR: 'it returns false'. Refute it at one input. -/
def fnNameSetInsertAnywhereWrong : ChangeSpec := { name := "fnNameSetInsertAnywhere", fn := fun _ => fun
  | [d1, d2, d3] => { results := [.lit (.bool false)], args := [d1, d2, d3] }
  | _ => none }
def FnNameSetInsertAnywhereWrongFalsely : Prop := fnNameSetInsertAnywhereRow.holds Try.pinned (OpenSpec.ofChange fnNameSetInsertAnywhereWrong)

end Rows
end Go.Proofs.Qxb6617385a
