/-
  No cell of these rows narrows 'for every input' (looked for: loops, veiled, ifaces, maps, wideKeys, modest, calm, conditions, laid).
  DERIVED. THE GIVEN ROWS OF THIS SEAT. 1 by the template 'for every input the law returns true; each argument reads behind the call as it read before'; 0 by the template 'total and deterministic' (their statements: Qxb6613354aTotals.lean).
  GIVEN WITH THE SEED: the statements are not yours to turn. If you find one false, say at which input.
  Laid BY PROGRAM, IN A SANDBOX (cutbox-rows.mjs): the forced cells as the released guide's own fill.sh prints them over the translation 7e1ba9d2fb3bb04d… (all of the seat's roots in one cut). By AI agents, Wed Nov 11 2026. No macro, syntax, notation, axiom, sorry.
-/
import Derived.Test.Qxb6613354aChecked
import GoSem.Claim
import GoSem.ClaimJoined
import GoSem.ClaimMapViews
import Derived.JoinedTies
import Derived.KernelRfl
namespace Go.Proofs.Qxb6613354a
/- THE CELL 'sum', in the pinned program and in every row, IS THE sha256 OF THE DUMP (.gsa) THAT Qxb6613354aProg.lean LOADS. Nothing in Lean hashes anything: it is a label: what it is worth is what the hold of that sum in a sandbox is worth. -/
noncomputable def Try.pinned : Pinned := { name := "qxb6613354a", sum := "7e1ba9d2fb3bb04d83e231723f8c5b12018bcfbb804a898696cca042abc0baae", checked := Try.checked }
namespace Rows
def none {H : Type} : Left H := { results := [], args := [] }

/-- 'zzlaws_internal_diff_b1.FnSecurityBothWaysIsExact': WHATEVER THE INPUT: true; the input reads as it did. -/
def fnSecurityBothWaysIsExactSpec : ChangeSpec := { name := "fnSecurityBothWaysIsExact", fn := fun _ => fun
  | [d1, d2, d3, d4, d5, d6, d7, d8, d9, d10] => { results := [.lit (.bool true)], args := [d1, d2, d3, d4, d5, d6, d7, d8, d9, d10] }
  | _ => none }
def fnSecurityBothWaysIsExactRow : OpenClaim := { program := "qxb6613354a", sum := "7e1ba9d2fb3bb04d83e231723f8c5b12018bcfbb804a898696cca042abc0baae", func := "example.com/seamgate/seamgate/zzlaws_internal_diff_b1.FnSecurityBothWaysIsExact", spec := "fnSecurityBothWaysIsExact", unfollowed := true, recurses := true, plainKeys := false, apart := false }
def FnSecurityBothWaysIsExactSaid : Prop := fnSecurityBothWaysIsExactRow.holds Try.pinned (OpenSpec.ofChange fnSecurityBothWaysIsExactSpec)

/-- ITS FALSE NEIGHBOUR: 'it returns false'. Refute it at one input. -/
def fnSecurityBothWaysIsExactWrong : ChangeSpec := { name := "fnSecurityBothWaysIsExact", fn := fun _ => fun
  | [d1, d2, d3, d4, d5, d6, d7, d8, d9, d10] => { results := [.lit (.bool false)], args := [d1, d2, d3, d4, d5, d6, d7, d8, d9, d10] }
  | _ => none }
def FnSecurityBothWaysIsExactWrongFalsely : Prop := fnSecurityBothWaysIsExactRow.holds Try.pinned (OpenSpec.ofChange fnSecurityBothWaysIsExactWrong)

end Rows
end Go.Proofs.Qxb6613354a
