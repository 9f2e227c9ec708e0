/-
  No cell of these rows narrows 'for every input' (looked for: loops, veiled, ifaces, maps, wideKeys, modest, calm, conditions, laid).
  DERIVED. THE GIVEN ROWS OF THIS SEAT. 1 by the template 'for every input the law returns true; each argument reads behind the call as it read before'; 0 by the template 'total and deterministic' (their statements: Qxb6613913aTotals.lean).
  GIVEN WITH THE SEED: the statements are not yours to turn. If you find one false, say at which input.
  Laid BY PROGRAM, IN A SANDBOX (cutbox-rows.mjs): the forced cells as the released guide's own fill.sh prints them over the translation 18b9b5bba89aaf97… (all of the seat's roots in one cut). By AI agents, Wed Nov 11 2026. No macro, syntax, notation, axiom, sorry.
-/
import Derived.Test.Qxb6613913aChecked
import GoSem.Claim
import GoSem.ClaimJoined
import GoSem.ClaimMapViews
import Derived.JoinedTies
import Derived.KernelRfl
namespace Go.Proofs.Qxb6613913a
/- THE CELL 'sum', in the pinned program and in every row, IS THE sha256 OF THE DUMP (.gsa) THAT Qxb6613913aProg.lean LOADS. Nothing in Lean hashes anything: it is a label: what it is worth is what the hold of that sum in a sandbox is worth. -/
noncomputable def Try.pinned : Pinned := { name := "qxb6613913a", sum := "18b9b5bba89aaf97befb4120a786299cae86f709ea23b504abd53578051348e0", checked := Try.checked }
namespace Rows
def none {H : Type} : Left H := { results := [], args := [] }

/-- 'zzlaws_root_b1.FnUnlabelScriptKeepsTheRest': WHATEVER THE INPUT: true; the input reads as it did. -/
def fnUnlabelScriptKeepsTheRestSpec : ChangeSpec := { name := "fnUnlabelScriptKeepsTheRest", fn := fun _ => fun
  | [d1, d2, d3, d4, d5] => { results := [.lit (.bool true)], args := [d1, d2, d3, d4, d5] }
  | _ => none }
def fnUnlabelScriptKeepsTheRestRow : OpenClaim := { program := "qxb6613913a", sum := "18b9b5bba89aaf97befb4120a786299cae86f709ea23b504abd53578051348e0", func := "example.com/ferngraph/ferngraph/zzlaws_root_b1.FnUnlabelScriptKeepsTheRest", spec := "fnUnlabelScriptKeepsTheRest", apart := false }
def FnUnlabelScriptKeepsTheRestSaid : Prop := fnUnlabelScriptKeepsTheRestRow.holds Try.pinned (OpenSpec.ofChange fnUnlabelScriptKeepsTheRestSpec)

/-- ITS FALSE NEIGHBOUR: 'it returns false'. Refute it at one input. -/
def fnUnlabelScriptKeepsTheRestWrong : ChangeSpec := { name := "fnUnlabelScriptKeepsTheRest", fn := fun _ => fun
  | [d1, d2, d3, d4, d5] => { results := [.lit (.bool false)], args := [d1, d2, d3, d4, d5] }
  | _ => none }
def FnUnlabelScriptKeepsTheRestWrongFalsely : Prop := fnUnlabelScriptKeepsTheRestRow.holds Try.pinned (OpenSpec.ofChange fnUnlabelScriptKeepsTheRestWrong)

end Rows
end Go.Proofs.Qxb6613913a
