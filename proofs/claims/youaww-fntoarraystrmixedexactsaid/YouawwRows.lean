/-
  No cell of these rows narrows 'for every input' (looked for: loops, veiled, ifaces, maps, wideKeys, modest, calm, conditions, laid).
  DERIVED. THE GIVEN ROWS OF THIS SEAT. 2 by the template 'for every input the law returns true; each argument reads behind the call as it read before'; 0 by the template 'total and deterministic' (their statements: YouawwTotals.lean).
  GIVEN WITH THE SEED: the statements are not yours to turn. If you find one false, say at which input.
  Laid BY PROGRAM, IN A SANDBOX (cutbox-rows.mjs): the forced cells as the released guide's own fill.sh prints them over the translation 12744878c3e58d7f… (all of the seat's roots in one cut). By AI agents, Wed Nov 11 2026. No macro, syntax, notation, axiom, sorry.
-/
import Derived.Test.YouawwChecked
import GoSem.Claim
import GoSem.ClaimJoined
import GoSem.ClaimMapViews
import Derived.JoinedTies
import Derived.KernelRfl
namespace Go.Proofs.Youaww
/- THE CELL 'sum', in the pinned program and in every row, IS THE sha256 OF THE DUMP (.gsa) THAT YouawwProg.lean LOADS. Nothing in Lean hashes anything: it is a label: what it is worth is what the hold of that sum in a sandbox is worth. -/
noncomputable def Uawg.pinned : Pinned := { name := "youaww", sum := "12744878c3e58d7feacb7b9060f681322457c4c7b41a69d21b78f1a8b0d53f2e", checked := Uawg.checked }
namespace Rows
def none {H : Type} : Left H := { results := [], args := [] }

/-- 'zzlaws_root_b23.FnToArrayStrMixedExact': WHATEVER THE INPUT: true; the input reads as it did. -/
def fnToArrayStrMixedExactSpec : ChangeSpec := { name := "fnToArrayStrMixedExact", fn := fun _ => fun
  | [d1, d2] => { results := [.lit (.bool true)], args := [d1, d2] }
  | _ => none }
def fnToArrayStrMixedExactRow : OpenClaim := { program := "youaww", sum := "12744878c3e58d7feacb7b9060f681322457c4c7b41a69d21b78f1a8b0d53f2e", func := "github.com/jmespath/go-jmespath/zzlaws_root_b23.FnToArrayStrMixedExact", spec := "fnToArrayStrMixedExact", apart := false }
def FnToArrayStrMixedExactSaid : Prop := fnToArrayStrMixedExactRow.holds Uawg.pinned (OpenSpec.ofChange fnToArrayStrMixedExactSpec)

/-- ITS FALSE NEIGHBOUR: 'it returns false'. Refute it at one input. -/
def fnToArrayStrMixedExactWrong : ChangeSpec := { name := "fnToArrayStrMixedExact", fn := fun _ => fun
  | [d1, d2] => { results := [.lit (.bool false)], args := [d1, d2] }
  | _ => none }
def FnToArrayStrMixedExactWrongFalsely : Prop := fnToArrayStrMixedExactRow.holds Uawg.pinned (OpenSpec.ofChange fnToArrayStrMixedExactWrong)

/-- 'zzlaws_root_b23.FnToArrayStrRefusesNonInterfaceSlices': WHATEVER THE INPUT: true; the input reads as it did. -/
def fnToArrayStrRefusesNonInterfaceSlicesSpec : ChangeSpec := { name := "fnToArrayStrRefusesNonInterfaceSlices", fn := fun _ => fun
  | [d1, d2, d3] => { results := [.lit (.bool true)], args := [d1, d2, d3] }
  | _ => none }
def fnToArrayStrRefusesNonInterfaceSlicesRow : OpenClaim := { program := "youaww", sum := "12744878c3e58d7feacb7b9060f681322457c4c7b41a69d21b78f1a8b0d53f2e", func := "github.com/jmespath/go-jmespath/zzlaws_root_b23.FnToArrayStrRefusesNonInterfaceSlices", spec := "fnToArrayStrRefusesNonInterfaceSlices", apart := false }
def FnToArrayStrRefusesNonInterfaceSlicesSaid : Prop := fnToArrayStrRefusesNonInterfaceSlicesRow.holds Uawg.pinned (OpenSpec.ofChange fnToArrayStrRefusesNonInterfaceSlicesSpec)

/-- ITS FALSE NEIGHBOUR: 'it returns false'. Refute it at one input. -/
def fnToArrayStrRefusesNonInterfaceSlicesWrong : ChangeSpec := { name := "fnToArrayStrRefusesNonInterfaceSlices", fn := fun _ => fun
  | [d1, d2, d3] => { results := [.lit (.bool false)], args := [d1, d2, d3] }
  | _ => none }
def FnToArrayStrRefusesNonInterfaceSlicesWrongFalsely : Prop := fnToArrayStrRefusesNonInterfaceSlicesRow.holds Uawg.pinned (OpenSpec.ofChange fnToArrayStrRefusesNonInterfaceSlicesWrong)

end Rows
end Go.Proofs.Youaww
