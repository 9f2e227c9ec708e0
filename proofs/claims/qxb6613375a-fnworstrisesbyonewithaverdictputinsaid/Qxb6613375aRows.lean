/-
  No cell of these rows narrows 'for every input' (looked for: loops, veiled, ifaces, maps, wideKeys, modest, calm, conditions, laid).
  DERIVED. THE GIVEN ROWS OF THIS SEAT. 3 by the template 'for every input the law returns true; each argument reads behind the call as it read before'; 0 by the template 'total and deterministic' (their statements: Qxb6613375aTotals.lean).
  GIVEN WITH THE SEED: the statements are not yours to turn. If you find one false, say at which input.
  Laid BY PROGRAM, IN A SANDBOX (cutbox-rows.mjs): the forced cells as the released guide's own fill.sh prints them over the translation 91b482142d94623e… (all of the seat's roots in one cut). By AI agents, Wed Nov 11 2026. No macro, syntax, notation, axiom, sorry.
-/
import Derived.Test.Qxb6613375aChecked
import GoSem.Claim
import GoSem.ClaimJoined
import GoSem.ClaimMapViews
import Derived.JoinedTies
import Derived.KernelRfl
namespace Go.Proofs.Qxb6613375a
/- THE CELL 'sum', in the pinned program and in every row, IS THE sha256 OF THE DUMP (.gsa) THAT Qxb6613375aProg.lean LOADS. Nothing in Lean hashes anything: it is a label: what it is worth is what the hold of that sum in a sandbox is worth. -/
noncomputable def Try.pinned : Pinned := { name := "qxb6613375a", sum := "91b482142d94623ea483d6442d4004920c37a8516204d765613c48ccefaa846e", checked := Try.checked }
namespace Rows
def none {H : Type} : Left H := { results := [], args := [] }

/-- 'zzlaws_decision_b1.FnIndexSlotsDoublesWithTheCount': WHATEVER THE INPUT: true; the input reads as it did. -/
def fnIndexSlotsDoublesWithTheCountSpec : ChangeSpec := { name := "fnIndexSlotsDoublesWithTheCount", fn := fun _ => fun
  | [d] => { results := [.lit (.bool true)], args := [d] }
  | _ => none }
def fnIndexSlotsDoublesWithTheCountRow : OpenClaim := { program := "qxb6613375a", sum := "91b482142d94623ea483d6442d4004920c37a8516204d765613c48ccefaa846e", func := "example.com/terse-verdict/terse-verdict/zzlaws_decision_b1.FnIndexSlotsDoublesWithTheCount", spec := "fnIndexSlotsDoublesWithTheCount", apart := false }
def FnIndexSlotsDoublesWithTheCountSaid : Prop := fnIndexSlotsDoublesWithTheCountRow.holds Try.pinned (OpenSpec.ofChange fnIndexSlotsDoublesWithTheCountSpec)

/-- ITS FALSE NEIGHBOUR: 'it returns false'. Refute it at one input. -/
def fnIndexSlotsDoublesWithTheCountWrong : ChangeSpec := { name := "fnIndexSlotsDoublesWithTheCount", fn := fun _ => fun
  | [d] => { results := [.lit (.bool false)], args := [d] }
  | _ => none }
def FnIndexSlotsDoublesWithTheCountWrongFalsely : Prop := fnIndexSlotsDoublesWithTheCountRow.holds Try.pinned (OpenSpec.ofChange fnIndexSlotsDoublesWithTheCountWrong)

/-- 'zzlaws_decision_b1.FnIndexSlotsGrowsWithTheCount': WHATEVER THE INPUT: true; the input reads as it did. -/
def fnIndexSlotsGrowsWithTheCountSpec : ChangeSpec := { name := "fnIndexSlotsGrowsWithTheCount", fn := fun _ => fun
  | [d1, d2] => { results := [.lit (.bool true)], args := [d1, d2] }
  | _ => none }
def fnIndexSlotsGrowsWithTheCountRow : OpenClaim := { program := "qxb6613375a", sum := "91b482142d94623ea483d6442d4004920c37a8516204d765613c48ccefaa846e", func := "example.com/terse-verdict/terse-verdict/zzlaws_decision_b1.FnIndexSlotsGrowsWithTheCount", spec := "fnIndexSlotsGrowsWithTheCount", apart := false }
def FnIndexSlotsGrowsWithTheCountSaid : Prop := fnIndexSlotsGrowsWithTheCountRow.holds Try.pinned (OpenSpec.ofChange fnIndexSlotsGrowsWithTheCountSpec)

/-- ITS FALSE NEIGHBOUR: 'it returns false'. Refute it at one input. -/
def fnIndexSlotsGrowsWithTheCountWrong : ChangeSpec := { name := "fnIndexSlotsGrowsWithTheCount", fn := fun _ => fun
  | [d1, d2] => { results := [.lit (.bool false)], args := [d1, d2] }
  | _ => none }
def FnIndexSlotsGrowsWithTheCountWrongFalsely : Prop := fnIndexSlotsGrowsWithTheCountRow.holds Try.pinned (OpenSpec.ofChange fnIndexSlotsGrowsWithTheCountWrong)

/-- 'zzlaws_decision_b1.FnWorstRisesByOneWithAVerdictPutIn': WHATEVER THE INPUT: true; the input reads as it did. -/
def fnWorstRisesByOneWithAVerdictPutInSpec : ChangeSpec := { name := "fnWorstRisesByOneWithAVerdictPutIn", fn := fun _ => fun
  | [d1, d2, d3] => { results := [.lit (.bool true)], args := [d1, d2, d3] }
  | _ => none }
def fnWorstRisesByOneWithAVerdictPutInRow : OpenClaim := { program := "qxb6613375a", sum := "91b482142d94623ea483d6442d4004920c37a8516204d765613c48ccefaa846e", func := "example.com/terse-verdict/terse-verdict/zzlaws_decision_b1.FnWorstRisesByOneWithAVerdictPutIn", spec := "fnWorstRisesByOneWithAVerdictPutIn", apart := false }
def FnWorstRisesByOneWithAVerdictPutInSaid : Prop := fnWorstRisesByOneWithAVerdictPutInRow.holds Try.pinned (OpenSpec.ofChange fnWorstRisesByOneWithAVerdictPutInSpec)

/-- ITS FALSE NEIGHBOUR: 'it returns false'. Refute it at one input. -/
def fnWorstRisesByOneWithAVerdictPutInWrong : ChangeSpec := { name := "fnWorstRisesByOneWithAVerdictPutIn", fn := fun _ => fun
  | [d1, d2, d3] => { results := [.lit (.bool false)], args := [d1, d2, d3] }
  | _ => none }
def FnWorstRisesByOneWithAVerdictPutInWrongFalsely : Prop := fnWorstRisesByOneWithAVerdictPutInRow.holds Try.pinned (OpenSpec.ofChange fnWorstRisesByOneWithAVerdictPutInWrong)

end Rows
end Go.Proofs.Qxb6613375a
