/-
  DERIVED. GIVEN WITH THE SEED: THE CARDS: each row of Qxb6613439aFmtRows.lean that lists a variable, with what it lists TIED to the program's text (the seventh form; the later family's looks); each row that meets fmt, with fmt's text TOLD by the authors' own Lean function (tested against real Go, not proved from fmt's source: count such statements apart). THE CARD IS WHAT COUNTS. Prove the row's statement (the work); the ties are given (Qxb6613439aFmtTie.lean); close each card by the builder's one call (the guide's Derived/Test/ToyasCard.lean, 'card_holds'). Laid BY PROGRAM, IN A SANDBOX (cutbox-door.mjs). By AI agents, Wed Nov 11 2026. No macro, syntax, notation, axiom, sorry.
-/
import Derived.Test.Qxb6613439aFmtRows
import GoSem.ClaimSeven
namespace Go.Proofs.Qxb6613439aFmt
namespace Rows

/-- THE TOLD CARD OF 'zzlaws_pkg_state_b1.FnPeekSkipsInsertedSpace'. -/
def fnPeekSkipsInsertedSpaceCard : Claim7 := { stood := { row := fnPeekSkipsInsertedSpaceRow, standIns := [], harness := (true, "9b032105cbd9a2a2e3ffe04d95563a445af690ffe5a3f3b232300a1d9474b162"), looks := false }, told := true, goes := false }
def FnPeekSkipsInsertedSpaceToldSaid : Prop := Claim7.holds Tryf.pinned (.plain (OpenSpec.ofChange fnPeekSkipsInsertedSpaceSpec)) fnPeekSkipsInsertedSpaceCard
/-- ITS FALSE NEIGHBOUR. Refute it at one input. -/
def FnPeekSkipsInsertedSpaceToldWrongFalsely : Prop := Claim7.holds Tryf.pinned (.plain (OpenSpec.ofChange fnPeekSkipsInsertedSpaceWrong)) fnPeekSkipsInsertedSpaceCard
end Rows
end Go.Proofs.Qxb6613439aFmt
