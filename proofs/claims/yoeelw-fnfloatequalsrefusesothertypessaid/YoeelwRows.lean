/-
  No cell of these rows narrows 'for every input' (looked for: loops, veiled, ifaces, maps, wideKeys, modest, calm, conditions, laid).
  DERIVED. THE GIVEN ROWS OF THIS SEAT. 2 by the template 'for every input the law returns true; each argument reads behind the call as it read before'; 0 by the template 'total and deterministic' (their statements: YoeelwTotals.lean).
  GIVEN WITH THE SEED: the statements are not yours to turn. If you find one false, say at which input.
  Laid BY PROGRAM, IN A SANDBOX (cutbox-rows.mjs): the forced cells as the released guide's own fill.sh prints them over the translation c8c037bdc6e2edf5… (all of the seat's roots in one cut). By AI agents, Wed Nov 11 2026. No macro, syntax, notation, axiom, sorry.
-/
import Derived.Test.YoeelwChecked
import GoSem.Claim
import GoSem.ClaimJoined
import GoSem.ClaimMapViews
import Derived.JoinedTies
import Derived.KernelRfl
namespace Go.Proofs.Yoeelw
/- THE CELL 'sum', in the pinned program and in every row, IS THE sha256 OF THE DUMP (.gsa) THAT YoeelwProg.lean LOADS. Nothing in Lean hashes anything: it is a label: what it is worth is what the hold of that sum in a sandbox is worth. -/
noncomputable def Eelg.pinned : Pinned := { name := "yoeelw", sum := "c8c037bdc6e2edf561efba9b2180e9edd89a1aa25a868fe403be7eefc36e19f2", checked := Eelg.checked }
namespace Rows
def none {H : Type} : Left H := { results := [], args := [] }

/-- 'zzlaws_root_b3.FnFloatEqualsIsTwoWayOrder': WHATEVER THE INPUT: true; the input reads as it did. -/
def fnFloatEqualsIsTwoWayOrderSpec : ChangeSpec := { name := "fnFloatEqualsIsTwoWayOrder", fn := fun _ => fun
  | [d1, d2] => { results := [.lit (.bool true)], args := [d1, d2] }
  | _ => none }
def fnFloatEqualsIsTwoWayOrderRow : OpenClaim := { program := "yoeelw", sum := "c8c037bdc6e2edf561efba9b2180e9edd89a1aa25a868fe403be7eefc36e19f2", func := "github.com/d5/tengo/v2/zzlaws_root_b3.FnFloatEqualsIsTwoWayOrder", spec := "fnFloatEqualsIsTwoWayOrder", apart := false }
def FnFloatEqualsIsTwoWayOrderSaid : Prop := fnFloatEqualsIsTwoWayOrderRow.holds Eelg.pinned (OpenSpec.ofChange fnFloatEqualsIsTwoWayOrderSpec)

/-- ITS FALSE NEIGHBOUR: 'it returns false'. Refute it at one input. -/
def fnFloatEqualsIsTwoWayOrderWrong : ChangeSpec := { name := "fnFloatEqualsIsTwoWayOrder", fn := fun _ => fun
  | [d1, d2] => { results := [.lit (.bool false)], args := [d1, d2] }
  | _ => none }
def FnFloatEqualsIsTwoWayOrderWrongFalsely : Prop := fnFloatEqualsIsTwoWayOrderRow.holds Eelg.pinned (OpenSpec.ofChange fnFloatEqualsIsTwoWayOrderWrong)

/-- 'zzlaws_root_b3.FnFloatEqualsRefusesOtherTypes': WHATEVER THE INPUT: true; the input reads as it did. -/
def fnFloatEqualsRefusesOtherTypesSpec : ChangeSpec := { name := "fnFloatEqualsRefusesOtherTypes", fn := fun _ => fun
  | [d1, d2, d3, d4] => { results := [.lit (.bool true)], args := [d1, d2, d3, d4] }
  | _ => none }
def fnFloatEqualsRefusesOtherTypesRow : OpenClaim := { program := "yoeelw", sum := "c8c037bdc6e2edf561efba9b2180e9edd89a1aa25a868fe403be7eefc36e19f2", func := "github.com/d5/tengo/v2/zzlaws_root_b3.FnFloatEqualsRefusesOtherTypes", spec := "fnFloatEqualsRefusesOtherTypes", unfollowed := true, recurses := true, apart := false }
def FnFloatEqualsRefusesOtherTypesSaid : Prop := fnFloatEqualsRefusesOtherTypesRow.holds Eelg.pinned (OpenSpec.ofChange fnFloatEqualsRefusesOtherTypesSpec)

/-- ITS FALSE NEIGHBOUR: 'it returns false'. Refute it at one input. -/
def fnFloatEqualsRefusesOtherTypesWrong : ChangeSpec := { name := "fnFloatEqualsRefusesOtherTypes", fn := fun _ => fun
  | [d1, d2, d3, d4] => { results := [.lit (.bool false)], args := [d1, d2, d3, d4] }
  | _ => none }
def FnFloatEqualsRefusesOtherTypesWrongFalsely : Prop := fnFloatEqualsRefusesOtherTypesRow.holds Eelg.pinned (OpenSpec.ofChange fnFloatEqualsRefusesOtherTypesWrong)

end Rows
end Go.Proofs.Yoeelw
