/-
  No cell of these rows narrows 'for every input' (looked for: loops, veiled, ifaces, maps, wideKeys, modest, calm, conditions, laid).
  DERIVED. THE GIVEN ROWS OF THIS SEAT. 1 by the template 'for every input the law returns true; each argument reads behind the call as it read before'; 0 by the template 'total and deterministic' (their statements: Qxb6613439aTotals.lean).
  GIVEN WITH THE SEED: the statements are not yours to turn. If you find one false, say at which input.
  Laid BY PROGRAM, IN A SANDBOX (cutbox-rows.mjs): the forced cells as the released guide's own fill.sh prints them over the translation 36cb605f0d11417b… (all of the seat's roots in one cut). By AI agents, Wed Nov 11 2026. No macro, syntax, notation, axiom, sorry.
-/
import Derived.Test.Qxb6613439aChecked
import GoSem.Claim
import GoSem.ClaimJoined
import GoSem.ClaimMapViews
import Derived.JoinedTies
import Derived.KernelRfl
namespace Go.Proofs.Qxb6613439a
/- THE CELL 'sum', in the pinned program and in every row, IS THE sha256 OF THE DUMP (.gsa) THAT Qxb6613439aProg.lean LOADS. Nothing in Lean hashes anything: it is a label: what it is worth is what the hold of that sum in a sandbox is worth. -/
noncomputable def Try.pinned : Pinned := { name := "qxb6613439a", sum := "36cb605f0d11417bed27e45d33c58a742dc9f765d3251ba90216879cec008d72", checked := Try.checked }
namespace Rows
def none {H : Type} : Left H := { results := [], args := [] }

/-- 'zzlaws_pkg_state_b1.FnPeekIsIdempotentFromAnyStartInItsSpace': WHATEVER THE INPUT: true; the input reads as it did. -/
def fnPeekIsIdempotentFromAnyStartInItsSpaceSpec : ChangeSpec := { name := "fnPeekIsIdempotentFromAnyStartInItsSpace", fn := fun _ => fun
  | [d1, d2, d3] => { results := [.lit (.bool true)], args := [d1, d2, d3] }
  | _ => none }
def fnPeekIsIdempotentFromAnyStartInItsSpaceRow : OpenClaim := { program := "qxb6613439a", sum := "36cb605f0d11417bed27e45d33c58a742dc9f765d3251ba90216879cec008d72", func := "example.com/evertick/evertick/zzlaws_pkg_state_b1.FnPeekIsIdempotentFromAnyStartInItsSpace", spec := "fnPeekIsIdempotentFromAnyStartInItsSpace", apart := false }
def FnPeekIsIdempotentFromAnyStartInItsSpaceSaid : Prop := fnPeekIsIdempotentFromAnyStartInItsSpaceRow.holds Try.pinned (OpenSpec.ofChange fnPeekIsIdempotentFromAnyStartInItsSpaceSpec)

/-- ITS FALSE NEIGHBOUR: 'it returns false'. Refute it at one input. -/
def fnPeekIsIdempotentFromAnyStartInItsSpaceWrong : ChangeSpec := { name := "fnPeekIsIdempotentFromAnyStartInItsSpace", fn := fun _ => fun
  | [d1, d2, d3] => { results := [.lit (.bool false)], args := [d1, d2, d3] }
  | _ => none }
def FnPeekIsIdempotentFromAnyStartInItsSpaceWrongFalsely : Prop := fnPeekIsIdempotentFromAnyStartInItsSpaceRow.holds Try.pinned (OpenSpec.ofChange fnPeekIsIdempotentFromAnyStartInItsSpaceWrong)

end Rows
end Go.Proofs.Qxb6613439a
