/-
  No cell of these rows narrows 'for every input' (looked for: loops, veiled, ifaces, maps, wideKeys, modest, calm, conditions, laid).
  DERIVED. THE GIVEN ROWS OF THIS SEAT. 1 by the template 'for every input the law returns true; each argument reads behind the call as it read before'; 0 by the template 'total and deterministic' (their statements: Qxb6618565aFmtTotals.lean).
  GIVEN WITH THE SEED: the statements are not yours to turn. If you find one false, say at which input.
  Laid BY PROGRAM, IN A SANDBOX (cutbox-rows.mjs): the forced cells as the released guide's own fill.sh prints them over the translation 20e0759d9337d451… (all of the seat's roots in one cut). By AI agents, Wed Nov 11 2026. No macro, syntax, notation, axiom, sorry.
-/
import Derived.Test.Qxb6618565aFmtChecked
import GoSem.Claim
import GoSem.ClaimJoined
import GoSem.ClaimMapViews
import Derived.JoinedTies
import Derived.KernelRfl
namespace Go.Proofs.Qxb6618565aFmt
/- THE CELL 'sum', in the pinned program and in every row, IS THE sha256 OF THE DUMP (.gsa) THAT Qxb6618565aFmtProg.lean LOADS. Nothing in Lean hashes anything: it is a label: what it is worth is what the hold of that sum in a sandbox is worth. -/
noncomputable def Tryf.pinned : Pinned := { name := "qxb6618565afmt", sum := "20e0759d9337d4517bf4356115bcb0a937a5fb6e5c461a8c364183eeab449c0b", checked := Tryf.checked }
namespace Rows
def none {H : Type} : Left H := { results := [], args := [] }

/-- 'zzlaws_trace_b1.FnWhereNamesTwoEventsAlikeJustWhenTheyShareAPlace': WHATEVER THE INPUT: true; the input reads as it did. -/
def fnWhereNamesTwoEventsAlikeJustWhenTheyShareAPlaceSpec : ChangeSpec := { name := "fnWhereNamesTwoEventsAlikeJustWhenTheyShareAPlace", fn := fun _ => fun
  | [d1, d2, d3, d4, d5] => { results := [.lit (.bool true)], args := [d1, d2, d3, d4, d5] }
  | _ => none }
def fnWhereNamesTwoEventsAlikeJustWhenTheyShareAPlaceRow : OpenClaim := { program := "qxb6618565afmt", sum := "20e0759d9337d4517bf4356115bcb0a937a5fb6e5c461a8c364183eeab449c0b", func := "example.com/happenstance/happenstance/zzlaws_trace_b1.FnWhereNamesTwoEventsAlikeJustWhenTheyShareAPlace", spec := "fnWhereNamesTwoEventsAlikeJustWhenTheyShareAPlace", stops := ["fmt.Sprintf"], inPlace := ["fmt.Sprintf"], apart := false }
/-- NO THEOREM (fmt's text is open here; it may be false): for the released tool's asking of the row's closed facts alone. THE STATEMENT IS 'FnWhereNamesTwoEventsAlikeJustWhenTheyShareAPlaceToldSaid' (Qxb6618565aFmtCards.lean). -/
def FnWhereNamesTwoEventsAlikeJustWhenTheyShareAPlaceFormAsk : Prop := fnWhereNamesTwoEventsAlikeJustWhenTheyShareAPlaceRow.holds Tryf.pinned (OpenSpec.ofChange fnWhereNamesTwoEventsAlikeJustWhenTheyShareAPlaceSpec)

/-- ITS FALSE NEIGHBOUR: 'it returns false'. Refute it at one input. -/
def fnWhereNamesTwoEventsAlikeJustWhenTheyShareAPlaceWrong : ChangeSpec := { name := "fnWhereNamesTwoEventsAlikeJustWhenTheyShareAPlace", fn := fun _ => fun
  | [d1, d2, d3, d4, d5] => { results := [.lit (.bool false)], args := [d1, d2, d3, d4, d5] }
  | _ => none }
def FnWhereNamesTwoEventsAlikeJustWhenTheyShareAPlaceWrongFormAsk : Prop := fnWhereNamesTwoEventsAlikeJustWhenTheyShareAPlaceRow.holds Tryf.pinned (OpenSpec.ofChange fnWhereNamesTwoEventsAlikeJustWhenTheyShareAPlaceWrong)

end Rows
end Go.Proofs.Qxb6618565aFmt
