/-
  No cell of these rows narrows 'for every input' (looked for: loops, veiled, ifaces, maps, wideKeys, modest, calm, conditions, laid).
  DERIVED. THE GIVEN ROWS OF THIS SEAT. 4 by the template 'for every input the law returns true; each argument reads behind the call as it read before'; 0 by the template 'total and deterministic' (their statements: Qxb6604241aTotals.lean).
  GIVEN WITH THE SEED: the statements are not yours to turn. If you find one false, say at which input.
  Laid BY PROGRAM, IN A SANDBOX (cutbox-rows.mjs): the forced cells as the released guide's own fill.sh prints them over the translation e20fb0d25a9f3479… (all of the seat's roots in one cut). By AI agents, Wed Nov 11 2026. No macro, syntax, notation, axiom, sorry.
-/
import Derived.Test.Qxb6604241aChecked
import GoSem.Claim
import GoSem.ClaimJoined
import GoSem.ClaimMapViews
import Derived.JoinedTies
import Derived.KernelRfl
namespace Go.Proofs.Qxb6604241a
/- THE CELL 'sum', in the pinned program and in every row, IS THE sha256 OF THE DUMP (.gsa) THAT Qxb6604241aProg.lean LOADS. Nothing in Lean hashes anything: it is a label: what it is worth is what the hold of that sum in a sandbox is worth. -/
noncomputable def Try.pinned : Pinned := { name := "qxb6604241a", sum := "e20fb0d25a9f3479fb15326d74c936db37a9ea82ea231b40082c618d0751170b", checked := Try.checked }
namespace Rows
def none {H : Type} : Left H := { results := [], args := [] }

/-- 'zzlaws_root_b1.FnReadCountsAddExact': WHATEVER THE INPUT: true; the input reads as it did. -/
def fnReadCountsAddExactSpec : ChangeSpec := { name := "fnReadCountsAddExact", fn := fun _ => fun
  | [d1, d2, d3, d4, d5] => { results := [.lit (.bool true)], args := [d1, d2, d3, d4, d5] }
  | _ => none }
def fnReadCountsAddExactRow : OpenClaim := { program := "qxb6604241a", sum := "e20fb0d25a9f3479fb15326d74c936db37a9ea82ea231b40082c618d0751170b", func := "example.com/palimpsest/palimpsest/zzlaws_root_b1.FnReadCountsAddExact", spec := "fnReadCountsAddExact", apart := false }
def FnReadCountsAddExactSaid : Prop := fnReadCountsAddExactRow.holds Try.pinned (OpenSpec.ofChange fnReadCountsAddExactSpec)

/-- ITS FALSE NEIGHBOUR: 'it returns false'. Refute it at one input. -/
def fnReadCountsAddExactWrong : ChangeSpec := { name := "fnReadCountsAddExact", fn := fun _ => fun
  | [d1, d2, d3, d4, d5] => { results := [.lit (.bool false)], args := [d1, d2, d3, d4, d5] }
  | _ => none }
def FnReadCountsAddExactWrongFalsely : Prop := fnReadCountsAddExactRow.holds Try.pinned (OpenSpec.ofChange fnReadCountsAddExactWrong)

/-- 'zzlaws_root_b1.FnReadCountsEstimateExact': WHATEVER THE INPUT: true; the input reads as it did. -/
def fnReadCountsEstimateExactSpec : ChangeSpec := { name := "fnReadCountsEstimateExact", fn := fun _ => fun
  | [d1, d2, d3] => { results := [.lit (.bool true)], args := [d1, d2, d3] }
  | _ => none }
def fnReadCountsEstimateExactRow : OpenClaim := { program := "qxb6604241a", sum := "e20fb0d25a9f3479fb15326d74c936db37a9ea82ea231b40082c618d0751170b", func := "example.com/palimpsest/palimpsest/zzlaws_root_b1.FnReadCountsEstimateExact", spec := "fnReadCountsEstimateExact", apart := false }
def FnReadCountsEstimateExactSaid : Prop := fnReadCountsEstimateExactRow.holds Try.pinned (OpenSpec.ofChange fnReadCountsEstimateExactSpec)

/-- ITS FALSE NEIGHBOUR: 'it returns false'. Refute it at one input. -/
def fnReadCountsEstimateExactWrong : ChangeSpec := { name := "fnReadCountsEstimateExact", fn := fun _ => fun
  | [d1, d2, d3] => { results := [.lit (.bool false)], args := [d1, d2, d3] }
  | _ => none }
def FnReadCountsEstimateExactWrongFalsely : Prop := fnReadCountsEstimateExactRow.holds Try.pinned (OpenSpec.ofChange fnReadCountsEstimateExactWrong)

/-- 'zzlaws_root_b1.FnReadCountsAddRaisesEstimate': WHATEVER THE INPUT: true; the input reads as it did. -/
def fnReadCountsAddRaisesEstimateSpec : ChangeSpec := { name := "fnReadCountsAddRaisesEstimate", fn := fun _ => fun
  | [d1, d2, d3, d4, d5, d6] => { results := [.lit (.bool true)], args := [d1, d2, d3, d4, d5, d6] }
  | _ => none }
def fnReadCountsAddRaisesEstimateRow : OpenClaim := { program := "qxb6604241a", sum := "e20fb0d25a9f3479fb15326d74c936db37a9ea82ea231b40082c618d0751170b", func := "example.com/palimpsest/palimpsest/zzlaws_root_b1.FnReadCountsAddRaisesEstimate", spec := "fnReadCountsAddRaisesEstimate", apart := false }
def FnReadCountsAddRaisesEstimateSaid : Prop := fnReadCountsAddRaisesEstimateRow.holds Try.pinned (OpenSpec.ofChange fnReadCountsAddRaisesEstimateSpec)

/-- ITS FALSE NEIGHBOUR: 'it returns false'. Refute it at one input. -/
def fnReadCountsAddRaisesEstimateWrong : ChangeSpec := { name := "fnReadCountsAddRaisesEstimate", fn := fun _ => fun
  | [d1, d2, d3, d4, d5, d6] => { results := [.lit (.bool false)], args := [d1, d2, d3, d4, d5, d6] }
  | _ => none }
def FnReadCountsAddRaisesEstimateWrongFalsely : Prop := fnReadCountsAddRaisesEstimateRow.holds Try.pinned (OpenSpec.ofChange fnReadCountsAddRaisesEstimateWrong)

/-- 'zzlaws_root_b1.FnReadCountsNeverUndercounts': WHATEVER THE INPUT: true; the input reads as it did. -/
def fnReadCountsNeverUndercountsSpec : ChangeSpec := { name := "fnReadCountsNeverUndercounts", fn := fun _ => fun
  | [d1, d2] => { results := [.lit (.bool true)], args := [d1, d2] }
  | _ => none }
def fnReadCountsNeverUndercountsRow : OpenClaim := { program := "qxb6604241a", sum := "e20fb0d25a9f3479fb15326d74c936db37a9ea82ea231b40082c618d0751170b", func := "example.com/palimpsest/palimpsest/zzlaws_root_b1.FnReadCountsNeverUndercounts", spec := "fnReadCountsNeverUndercounts", apart := false }
def FnReadCountsNeverUndercountsSaid : Prop := fnReadCountsNeverUndercountsRow.holds Try.pinned (OpenSpec.ofChange fnReadCountsNeverUndercountsSpec)

/-- ITS FALSE NEIGHBOUR: 'it returns false'. Refute it at one input. -/
def fnReadCountsNeverUndercountsWrong : ChangeSpec := { name := "fnReadCountsNeverUndercounts", fn := fun _ => fun
  | [d1, d2] => { results := [.lit (.bool false)], args := [d1, d2] }
  | _ => none }
def FnReadCountsNeverUndercountsWrongFalsely : Prop := fnReadCountsNeverUndercountsRow.holds Try.pinned (OpenSpec.ofChange fnReadCountsNeverUndercountsWrong)

end Rows
end Go.Proofs.Qxb6604241a
