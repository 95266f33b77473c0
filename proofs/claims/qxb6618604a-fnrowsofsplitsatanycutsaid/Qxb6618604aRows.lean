/-
  No cell of these rows narrows 'for every input' (looked for: loops, veiled, ifaces, maps, wideKeys, modest, calm, conditions, laid).
  DERIVED. THE GIVEN ROWS OF THIS SEAT. 4 by the template 'for every input the law returns true; each argument reads behind the call as it read before'; 0 by the template 'total and deterministic' (their statements: Qxb6618604aTotals.lean).
  GIVEN WITH THE SEED: the statements are not yours to turn. If you find one false, say at which input.
  Laid BY PROGRAM, IN A SANDBOX (cutbox-rows.mjs): the forced cells as the released guide's own fill.sh prints them over the translation 8f9907e75a1c3ca1… (all of the seat's roots in one cut). By AI agents, Wed Nov 11 2026. No macro, syntax, notation, axiom, sorry.
-/
import Derived.Test.Qxb6618604aChecked
import GoSem.Claim
import GoSem.ClaimJoined
import GoSem.ClaimMapViews
import Derived.JoinedTies
import Derived.KernelRfl
namespace Go.Proofs.Qxb6618604a
/- THE CELL 'sum', in the pinned program and in every row, IS THE sha256 OF THE DUMP (.gsa) THAT Qxb6618604aProg.lean LOADS. Nothing in Lean hashes anything: it is a label: what it is worth is what the hold of that sum in a sandbox is worth. -/
noncomputable def Try.pinned : Pinned := { name := "qxb6618604a", sum := "8f9907e75a1c3ca1ad3e23a549570657b3c06ab2a2794f6def71c5afcad53e1a", checked := Try.checked }
namespace Rows
def none {H : Type} : Left H := { results := [], args := [] }

/-- 'zzlaws_internal_engine_b1.FnRaiseTwiceIsMaxOfThree': WHATEVER THE INPUT: true; the input reads as it did. -/
def fnRaiseTwiceIsMaxOfThreeSpec : ChangeSpec := { name := "fnRaiseTwiceIsMaxOfThree", fn := fun _ => fun
  | [d1, d2, d3] => { results := [.lit (.bool true)], args := [d1, d2, d3] }
  | _ => none }
def fnRaiseTwiceIsMaxOfThreeRow : OpenClaim := { program := "qxb6618604a", sum := "8f9907e75a1c3ca1ad3e23a549570657b3c06ab2a2794f6def71c5afcad53e1a", func := "example.com/epochwise/epochwise/zzlaws_internal_engine_b1.FnRaiseTwiceIsMaxOfThree", spec := "fnRaiseTwiceIsMaxOfThree", inPlace := ["sync/atomic.StoreInt64", "sync/atomic.LoadInt64", "sync/atomic.CompareAndSwapInt64"], apart := false }
def FnRaiseTwiceIsMaxOfThreeSaid : Prop := fnRaiseTwiceIsMaxOfThreeRow.holds Try.pinned (OpenSpec.ofChange fnRaiseTwiceIsMaxOfThreeSpec)

/-- ITS FALSE NEIGHBOUR: 'it returns false'. Refute it at one input. -/
def fnRaiseTwiceIsMaxOfThreeWrong : ChangeSpec := { name := "fnRaiseTwiceIsMaxOfThree", fn := fun _ => fun
  | [d1, d2, d3] => { results := [.lit (.bool false)], args := [d1, d2, d3] }
  | _ => none }
def FnRaiseTwiceIsMaxOfThreeWrongFalsely : Prop := fnRaiseTwiceIsMaxOfThreeRow.holds Try.pinned (OpenSpec.ofChange fnRaiseTwiceIsMaxOfThreeWrong)

/-- 'zzlaws_internal_engine_b1.FnRaiseOrderFreeIdempotentLeastBound': WHATEVER THE INPUT: true; the input reads as it did. -/
def fnRaiseOrderFreeIdempotentLeastBoundSpec : ChangeSpec := { name := "fnRaiseOrderFreeIdempotentLeastBound", fn := fun _ => fun
  | [d1, d2, d3] => { results := [.lit (.bool true)], args := [d1, d2, d3] }
  | _ => none }
def fnRaiseOrderFreeIdempotentLeastBoundRow : OpenClaim := { program := "qxb6618604a", sum := "8f9907e75a1c3ca1ad3e23a549570657b3c06ab2a2794f6def71c5afcad53e1a", func := "example.com/epochwise/epochwise/zzlaws_internal_engine_b1.FnRaiseOrderFreeIdempotentLeastBound", spec := "fnRaiseOrderFreeIdempotentLeastBound", inPlace := ["sync/atomic.StoreInt64", "sync/atomic.LoadInt64", "sync/atomic.CompareAndSwapInt64"], apart := false }
def FnRaiseOrderFreeIdempotentLeastBoundSaid : Prop := fnRaiseOrderFreeIdempotentLeastBoundRow.holds Try.pinned (OpenSpec.ofChange fnRaiseOrderFreeIdempotentLeastBoundSpec)

/-- ITS FALSE NEIGHBOUR: 'it returns false'. Refute it at one input. -/
def fnRaiseOrderFreeIdempotentLeastBoundWrong : ChangeSpec := { name := "fnRaiseOrderFreeIdempotentLeastBound", fn := fun _ => fun
  | [d1, d2, d3] => { results := [.lit (.bool false)], args := [d1, d2, d3] }
  | _ => none }
def FnRaiseOrderFreeIdempotentLeastBoundWrongFalsely : Prop := fnRaiseOrderFreeIdempotentLeastBoundRow.holds Try.pinned (OpenSpec.ofChange fnRaiseOrderFreeIdempotentLeastBoundWrong)

/-- 'zzlaws_internal_engine_b1.FnRowsOfSplitsAtAnyCut': WHATEVER THE INPUT: true; the input reads as it did. -/
def fnRowsOfSplitsAtAnyCutSpec : ChangeSpec := { name := "fnRowsOfSplitsAtAnyCut", fn := fun _ => fun
  | [d1, d2, d3, d4] => { results := [.lit (.bool true)], args := [d1, d2, d3, d4] }
  | _ => none }
def fnRowsOfSplitsAtAnyCutRow : OpenClaim := { program := "qxb6618604a", sum := "8f9907e75a1c3ca1ad3e23a549570657b3c06ab2a2794f6def71c5afcad53e1a", func := "example.com/epochwise/epochwise/zzlaws_internal_engine_b1.FnRowsOfSplitsAtAnyCut", spec := "fnRowsOfSplitsAtAnyCut", unfollowed := true, recurses := true, apart := false }
def FnRowsOfSplitsAtAnyCutSaid : Prop := fnRowsOfSplitsAtAnyCutRow.holds Try.pinned (OpenSpec.ofChange fnRowsOfSplitsAtAnyCutSpec)

/-- ITS FALSE NEIGHBOUR: 'it returns false'. Refute it at one input. -/
def fnRowsOfSplitsAtAnyCutWrong : ChangeSpec := { name := "fnRowsOfSplitsAtAnyCut", fn := fun _ => fun
  | [d1, d2, d3, d4] => { results := [.lit (.bool false)], args := [d1, d2, d3, d4] }
  | _ => none }
def FnRowsOfSplitsAtAnyCutWrongFalsely : Prop := fnRowsOfSplitsAtAnyCutRow.holds Try.pinned (OpenSpec.ofChange fnRowsOfSplitsAtAnyCutWrong)

/-- 'zzlaws_internal_engine_b1.FnRowsOfStopsAfterAnyPrefix': WHATEVER THE INPUT: true; the input reads as it did. -/
def fnRowsOfStopsAfterAnyPrefixSpec : ChangeSpec := { name := "fnRowsOfStopsAfterAnyPrefix", fn := fun _ => fun
  | [d1, d2, d3, d4] => { results := [.lit (.bool true)], args := [d1, d2, d3, d4] }
  | _ => none }
def fnRowsOfStopsAfterAnyPrefixRow : OpenClaim := { program := "qxb6618604a", sum := "8f9907e75a1c3ca1ad3e23a549570657b3c06ab2a2794f6def71c5afcad53e1a", func := "example.com/epochwise/epochwise/zzlaws_internal_engine_b1.FnRowsOfStopsAfterAnyPrefix", spec := "fnRowsOfStopsAfterAnyPrefix", unfollowed := true, recurses := true, apart := false }
def FnRowsOfStopsAfterAnyPrefixSaid : Prop := fnRowsOfStopsAfterAnyPrefixRow.holds Try.pinned (OpenSpec.ofChange fnRowsOfStopsAfterAnyPrefixSpec)

/-- ITS FALSE NEIGHBOUR: 'it returns false'. Refute it at one input. -/
def fnRowsOfStopsAfterAnyPrefixWrong : ChangeSpec := { name := "fnRowsOfStopsAfterAnyPrefix", fn := fun _ => fun
  | [d1, d2, d3, d4] => { results := [.lit (.bool false)], args := [d1, d2, d3, d4] }
  | _ => none }
def FnRowsOfStopsAfterAnyPrefixWrongFalsely : Prop := fnRowsOfStopsAfterAnyPrefixRow.holds Try.pinned (OpenSpec.ofChange fnRowsOfStopsAfterAnyPrefixWrong)

end Rows
end Go.Proofs.Qxb6618604a
