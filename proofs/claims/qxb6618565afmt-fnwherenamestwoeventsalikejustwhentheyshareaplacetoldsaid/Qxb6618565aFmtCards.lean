/-
  DERIVED. GIVEN WITH THE SEED: THE CARDS: each row of Qxb6618565aFmtRows.lean that lists a variable, with what it lists TIED to the program's text (the seventh form; the later family's looks); each row that meets fmt, with fmt's text TOLD by the authors' own Lean function (tested against real Go, not proved from fmt's source: count such statements apart). THE CARD IS WHAT COUNTS. Prove the row's statement (the work); the ties are given (Qxb6618565aFmtTie.lean); close each card by the builder's one call (the guide's Derived/Test/ToyasCard.lean, 'card_holds'). Laid BY PROGRAM, IN A SANDBOX (cutbox-door.mjs). By AI agents, Wed Nov 11 2026. No macro, syntax, notation, axiom, sorry.
-/
import Derived.Test.Qxb6618565aFmtRows
import GoSem.ClaimSeven
namespace Go.Proofs.Qxb6618565aFmt
namespace Rows

/-- THE TOLD CARD OF 'zzlaws_trace_b1.FnWhereNamesTwoEventsAlikeJustWhenTheyShareAPlace'. -/
def fnWhereNamesTwoEventsAlikeJustWhenTheyShareAPlaceCard : Claim7 := { stood := { row := fnWhereNamesTwoEventsAlikeJustWhenTheyShareAPlaceRow, standIns := [], harness := (true, "efdecace870bd5149bdca9e63ff6d6d692da8143f46b9cf8b306fffc2601f8bd"), looks := false }, told := true, goes := false }
def FnWhereNamesTwoEventsAlikeJustWhenTheyShareAPlaceToldSaid : Prop := Claim7.holds Tryf.pinned (.plain (OpenSpec.ofChange fnWhereNamesTwoEventsAlikeJustWhenTheyShareAPlaceSpec)) fnWhereNamesTwoEventsAlikeJustWhenTheyShareAPlaceCard
/-- ITS FALSE NEIGHBOUR. Refute it at one input. -/
def FnWhereNamesTwoEventsAlikeJustWhenTheyShareAPlaceToldWrongFalsely : Prop := Claim7.holds Tryf.pinned (.plain (OpenSpec.ofChange fnWhereNamesTwoEventsAlikeJustWhenTheyShareAPlaceWrong)) fnWhereNamesTwoEventsAlikeJustWhenTheyShareAPlaceCard
end Rows
end Go.Proofs.Qxb6618565aFmt
