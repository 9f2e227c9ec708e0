/-
  No cell of these rows narrows 'for every input' (looked for: loops, veiled, ifaces, maps, wideKeys, modest, calm, conditions, laid).
  DERIVED. THE GIVEN ROWS OF THIS SEAT. 1 by the template 'for every input the law returns true; each argument reads behind the call as it read before'; 0 by the template 'total and deterministic' (their statements: Qxb6613439aFmtTotals.lean).
  GIVEN WITH THE SEED: the statements are not yours to turn. If you find one false, say at which input.
  Laid BY PROGRAM, IN A SANDBOX (cutbox-rows.mjs): the forced cells as the released guide's own fill.sh prints them over the translation 0267a8db9c1dac25… (all of the seat's roots in one cut). By AI agents, Wed Nov 11 2026. No macro, syntax, notation, axiom, sorry.
-/
import Derived.Test.Qxb6613439aFmtChecked
import GoSem.Claim
import GoSem.ClaimJoined
import GoSem.ClaimMapViews
import Derived.JoinedTies
import Derived.KernelRfl
namespace Go.Proofs.Qxb6613439aFmt
/- THE CELL 'sum', in the pinned program and in every row, IS THE sha256 OF THE DUMP (.gsa) THAT Qxb6613439aFmtProg.lean LOADS. Nothing in Lean hashes anything: it is a label: what it is worth is what the hold of that sum in a sandbox is worth. -/
noncomputable def Tryf.pinned : Pinned := { name := "qxb6613439afmt", sum := "0267a8db9c1dac2527e903c9c2c8f799a0504a5713c394bb0b1ec66d863ca9b1", checked := Tryf.checked }
namespace Rows
def none {H : Type} : Left H := { results := [], args := [] }

/-- 'zzlaws_pkg_state_b1.FnPeekSkipsInsertedSpace': WHATEVER THE INPUT: true; the input reads as it did. -/
def fnPeekSkipsInsertedSpaceSpec : ChangeSpec := { name := "fnPeekSkipsInsertedSpace", fn := fun _ => fun
  | [d1, d2, d3, d4] => { results := [.lit (.bool true)], args := [d1, d2, d3, d4] }
  | _ => none }
def fnPeekSkipsInsertedSpaceRow : OpenClaim := { program := "qxb6613439afmt", sum := "0267a8db9c1dac2527e903c9c2c8f799a0504a5713c394bb0b1ec66d863ca9b1", func := "example.com/evertick/evertick/zzlaws_pkg_state_b1.FnPeekSkipsInsertedSpace", spec := "fnPeekSkipsInsertedSpace", stops := ["fmt.errorf"], inPlace := ["fmt.errorf"], apart := false }
/-- NO THEOREM (fmt's text is open here; it may be false): for the released tool's asking of the row's closed facts alone. THE STATEMENT IS 'FnPeekSkipsInsertedSpaceToldSaid' (Qxb6613439aFmtCards.lean). -/
def FnPeekSkipsInsertedSpaceFormAsk : Prop := fnPeekSkipsInsertedSpaceRow.holds Tryf.pinned (OpenSpec.ofChange fnPeekSkipsInsertedSpaceSpec)

/-- ITS FALSE NEIGHBOUR: 'it returns false'. Refute it at one input. -/
def fnPeekSkipsInsertedSpaceWrong : ChangeSpec := { name := "fnPeekSkipsInsertedSpace", fn := fun _ => fun
  | [d1, d2, d3, d4] => { results := [.lit (.bool false)], args := [d1, d2, d3, d4] }
  | _ => none }
def FnPeekSkipsInsertedSpaceWrongFormAsk : Prop := fnPeekSkipsInsertedSpaceRow.holds Tryf.pinned (OpenSpec.ofChange fnPeekSkipsInsertedSpaceWrong)

end Rows
end Go.Proofs.Qxb6613439aFmt
