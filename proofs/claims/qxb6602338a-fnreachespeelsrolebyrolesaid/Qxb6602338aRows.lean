/-
  No cell of these rows narrows 'for every input' (looked for: loops, veiled, ifaces, maps, wideKeys, modest, calm, conditions, laid).
  DERIVED. THE GIVEN ROWS OF THIS SEAT. 9 by the template 'for every input the law returns true; each argument reads behind the call as it read before'; 0 by the template 'total and deterministic' (their statements: Qxb6602338aTotals.lean).
  GIVEN WITH THE SEED: the statements are not yours to turn. If you find one false, say at which input.
  Laid BY PROGRAM, IN A SANDBOX (cutbox-rows.mjs): the forced cells as the released guide's own fill.sh prints them over the translation 892eba9d05adafad… (all of the seat's roots in one cut). By AI agents, Wed Nov 11 2026. No macro, syntax, notation, axiom, sorry.
-/
import Derived.Test.Qxb6602338aChecked
import GoSem.Claim
import GoSem.ClaimJoined
import GoSem.ClaimMapViews
import Derived.JoinedTies
import Derived.KernelRfl
namespace Go.Proofs.Qxb6602338a
/- THE CELL 'sum', in the pinned program and in every row, IS THE sha256 OF THE DUMP (.gsa) THAT Qxb6602338aProg.lean LOADS. Nothing in Lean hashes anything: it is a label: what it is worth is what the hold of that sum in a sandbox is worth. -/
noncomputable def Try.pinned : Pinned := { name := "qxb6602338a", sum := "892eba9d05adafad44c59683ef47986424b681735a093080956d18a9c9a173b5", checked := Try.checked }
namespace Rows
def none {H : Type} : Left H := { results := [], args := [] }

/-- 'zzlaws_pkg_rbac_b1.FnReachesPeelsRoleByRole': WHATEVER THE INPUT: true; the input reads as it did. -/
def fnReachesPeelsRoleByRoleSpec : ChangeSpec := { name := "fnReachesPeelsRoleByRole", fn := fun _ => fun
  | [d1, d2, d3] => { results := [.lit (.bool true)], args := [d1, d2, d3] }
  | _ => none }
def fnReachesPeelsRoleByRoleRow : OpenClaim := { program := "qxb6602338a", sum := "892eba9d05adafad44c59683ef47986424b681735a093080956d18a9c9a173b5", func := "example.com/leafcutter/leafcutter/zzlaws_pkg_rbac_b1.FnReachesPeelsRoleByRole", spec := "fnReachesPeelsRoleByRole", apart := false }
def FnReachesPeelsRoleByRoleSaid : Prop := fnReachesPeelsRoleByRoleRow.holds Try.pinned (OpenSpec.ofChange fnReachesPeelsRoleByRoleSpec)

/-- ITS FALSE NEIGHBOUR: 'it returns false'. Refute it at one input. -/
def fnReachesPeelsRoleByRoleWrong : ChangeSpec := { name := "fnReachesPeelsRoleByRole", fn := fun _ => fun
  | [d1, d2, d3] => { results := [.lit (.bool false)], args := [d1, d2, d3] }
  | _ => none }
def FnReachesPeelsRoleByRoleWrongFalsely : Prop := fnReachesPeelsRoleByRoleRow.holds Try.pinned (OpenSpec.ofChange fnReachesPeelsRoleByRoleWrong)

/-- 'zzlaws_pkg_rbac_b1.FnReachesGrowsWithScopes': WHATEVER THE INPUT: true; the input reads as it did. -/
def fnReachesGrowsWithScopesSpec : ChangeSpec := { name := "fnReachesGrowsWithScopes", fn := fun _ => fun
  | [d1, d2, d3, d4] => { results := [.lit (.bool true)], args := [d1, d2, d3, d4] }
  | _ => none }
def fnReachesGrowsWithScopesRow : OpenClaim := { program := "qxb6602338a", sum := "892eba9d05adafad44c59683ef47986424b681735a093080956d18a9c9a173b5", func := "example.com/leafcutter/leafcutter/zzlaws_pkg_rbac_b1.FnReachesGrowsWithScopes", spec := "fnReachesGrowsWithScopes", apart := false }
def FnReachesGrowsWithScopesSaid : Prop := fnReachesGrowsWithScopesRow.holds Try.pinned (OpenSpec.ofChange fnReachesGrowsWithScopesSpec)

/-- ITS FALSE NEIGHBOUR: 'it returns false'. Refute it at one input. -/
def fnReachesGrowsWithScopesWrong : ChangeSpec := { name := "fnReachesGrowsWithScopes", fn := fun _ => fun
  | [d1, d2, d3, d4] => { results := [.lit (.bool false)], args := [d1, d2, d3, d4] }
  | _ => none }
def FnReachesGrowsWithScopesWrongFalsely : Prop := fnReachesGrowsWithScopesRow.holds Try.pinned (OpenSpec.ofChange fnReachesGrowsWithScopesWrong)

/-- 'zzlaws_pkg_rbac_b1.FnReachesNothingOfAnEmptyScope': WHATEVER THE INPUT: true; the input reads as it did. -/
def fnReachesNothingOfAnEmptyScopeSpec : ChangeSpec := { name := "fnReachesNothingOfAnEmptyScope", fn := fun _ => fun
  | [d1, d2, d3, d4, d5, d6, d7, d8, d9] => { results := [.lit (.bool true)], args := [d1, d2, d3, d4, d5, d6, d7, d8, d9] }
  | _ => none }
def fnReachesNothingOfAnEmptyScopeRow : OpenClaim := { program := "qxb6602338a", sum := "892eba9d05adafad44c59683ef47986424b681735a093080956d18a9c9a173b5", func := "example.com/leafcutter/leafcutter/zzlaws_pkg_rbac_b1.FnReachesNothingOfAnEmptyScope", spec := "fnReachesNothingOfAnEmptyScope", apart := false }
def FnReachesNothingOfAnEmptyScopeSaid : Prop := fnReachesNothingOfAnEmptyScopeRow.holds Try.pinned (OpenSpec.ofChange fnReachesNothingOfAnEmptyScopeSpec)

/-- ITS FALSE NEIGHBOUR: 'it returns false'. Refute it at one input. -/
def fnReachesNothingOfAnEmptyScopeWrong : ChangeSpec := { name := "fnReachesNothingOfAnEmptyScope", fn := fun _ => fun
  | [d1, d2, d3, d4, d5, d6, d7, d8, d9] => { results := [.lit (.bool false)], args := [d1, d2, d3, d4, d5, d6, d7, d8, d9] }
  | _ => none }
def FnReachesNothingOfAnEmptyScopeWrongFalsely : Prop := fnReachesNothingOfAnEmptyScopeRow.holds Try.pinned (OpenSpec.ofChange fnReachesNothingOfAnEmptyScopeWrong)

/-- 'zzlaws_pkg_rbac_b1.FnUnionPointwise': WHATEVER THE INPUT: true; the input reads as it did. -/
def fnUnionPointwiseSpec : ChangeSpec := { name := "fnUnionPointwise", fn := fun _ => fun
  | [d1, d2, d3] => { results := [.lit (.bool true)], args := [d1, d2, d3] }
  | _ => none }
def fnUnionPointwiseRow : OpenClaim := { program := "qxb6602338a", sum := "892eba9d05adafad44c59683ef47986424b681735a093080956d18a9c9a173b5", func := "example.com/leafcutter/leafcutter/zzlaws_pkg_rbac_b1.FnUnionPointwise", spec := "fnUnionPointwise", apart := false }
def FnUnionPointwiseSaid : Prop := fnUnionPointwiseRow.holds Try.pinned (OpenSpec.ofChange fnUnionPointwiseSpec)

/-- ITS FALSE NEIGHBOUR: 'it returns false'. Refute it at one input. -/
def fnUnionPointwiseWrong : ChangeSpec := { name := "fnUnionPointwise", fn := fun _ => fun
  | [d1, d2, d3] => { results := [.lit (.bool false)], args := [d1, d2, d3] }
  | _ => none }
def FnUnionPointwiseWrongFalsely : Prop := fnUnionPointwiseRow.holds Try.pinned (OpenSpec.ofChange fnUnionPointwiseWrong)

/-- 'zzlaws_pkg_rbac_b1.FnUnionLeastUpperBound': WHATEVER THE INPUT: true; the input reads as it did. -/
def fnUnionLeastUpperBoundSpec : ChangeSpec := { name := "fnUnionLeastUpperBound", fn := fun _ => fun
  | [d1, d2, d3] => { results := [.lit (.bool true)], args := [d1, d2, d3] }
  | _ => none }
def fnUnionLeastUpperBoundRow : OpenClaim := { program := "qxb6602338a", sum := "892eba9d05adafad44c59683ef47986424b681735a093080956d18a9c9a173b5", func := "example.com/leafcutter/leafcutter/zzlaws_pkg_rbac_b1.FnUnionLeastUpperBound", spec := "fnUnionLeastUpperBound", apart := false }
def FnUnionLeastUpperBoundSaid : Prop := fnUnionLeastUpperBoundRow.holds Try.pinned (OpenSpec.ofChange fnUnionLeastUpperBoundSpec)

/-- ITS FALSE NEIGHBOUR: 'it returns false'. Refute it at one input. -/
def fnUnionLeastUpperBoundWrong : ChangeSpec := { name := "fnUnionLeastUpperBound", fn := fun _ => fun
  | [d1, d2, d3] => { results := [.lit (.bool false)], args := [d1, d2, d3] }
  | _ => none }
def FnUnionLeastUpperBoundWrongFalsely : Prop := fnUnionLeastUpperBoundRow.holds Try.pinned (OpenSpec.ofChange fnUnionLeastUpperBoundWrong)

/-- 'zzlaws_pkg_rbac_b1.FnUnionSizeBounds': WHATEVER THE INPUT: true; the input reads as it did. -/
def fnUnionSizeBoundsSpec : ChangeSpec := { name := "fnUnionSizeBounds", fn := fun _ => fun
  | [d1, d2] => { results := [.lit (.bool true)], args := [d1, d2] }
  | _ => none }
def fnUnionSizeBoundsRow : OpenClaim := { program := "qxb6602338a", sum := "892eba9d05adafad44c59683ef47986424b681735a093080956d18a9c9a173b5", func := "example.com/leafcutter/leafcutter/zzlaws_pkg_rbac_b1.FnUnionSizeBounds", spec := "fnUnionSizeBounds", apart := false }
def FnUnionSizeBoundsSaid : Prop := fnUnionSizeBoundsRow.holds Try.pinned (OpenSpec.ofChange fnUnionSizeBoundsSpec)

/-- ITS FALSE NEIGHBOUR: 'it returns false'. Refute it at one input. -/
def fnUnionSizeBoundsWrong : ChangeSpec := { name := "fnUnionSizeBounds", fn := fun _ => fun
  | [d1, d2] => { results := [.lit (.bool false)], args := [d1, d2] }
  | _ => none }
def FnUnionSizeBoundsWrongFalsely : Prop := fnUnionSizeBoundsRow.holds Try.pinned (OpenSpec.ofChange fnUnionSizeBoundsWrong)

/-- 'zzlaws_pkg_rbac_b1.FnWithinPeelsKeyByKey': WHATEVER THE INPUT: true; the input reads as it did. -/
def fnWithinPeelsKeyByKeySpec : ChangeSpec := { name := "fnWithinPeelsKeyByKey", fn := fun _ => fun
  | [d1, d2, d3] => { results := [.lit (.bool true)], args := [d1, d2, d3] }
  | _ => none }
def fnWithinPeelsKeyByKeyRow : OpenClaim := { program := "qxb6602338a", sum := "892eba9d05adafad44c59683ef47986424b681735a093080956d18a9c9a173b5", func := "example.com/leafcutter/leafcutter/zzlaws_pkg_rbac_b1.FnWithinPeelsKeyByKey", spec := "fnWithinPeelsKeyByKey", apart := false }
def FnWithinPeelsKeyByKeySaid : Prop := fnWithinPeelsKeyByKeyRow.holds Try.pinned (OpenSpec.ofChange fnWithinPeelsKeyByKeySpec)

/-- ITS FALSE NEIGHBOUR: 'it returns false'. Refute it at one input. -/
def fnWithinPeelsKeyByKeyWrong : ChangeSpec := { name := "fnWithinPeelsKeyByKey", fn := fun _ => fun
  | [d1, d2, d3] => { results := [.lit (.bool false)], args := [d1, d2, d3] }
  | _ => none }
def FnWithinPeelsKeyByKeyWrongFalsely : Prop := fnWithinPeelsKeyByKeyRow.holds Try.pinned (OpenSpec.ofChange fnWithinPeelsKeyByKeyWrong)

/-- 'zzlaws_pkg_rbac_b1.FnWithinEmptyAndSize': WHATEVER THE INPUT: true; the input reads as it did. -/
def fnWithinEmptyAndSizeSpec : ChangeSpec := { name := "fnWithinEmptyAndSize", fn := fun _ => fun
  | [d1, d2] => { results := [.lit (.bool true)], args := [d1, d2] }
  | _ => none }
def fnWithinEmptyAndSizeRow : OpenClaim := { program := "qxb6602338a", sum := "892eba9d05adafad44c59683ef47986424b681735a093080956d18a9c9a173b5", func := "example.com/leafcutter/leafcutter/zzlaws_pkg_rbac_b1.FnWithinEmptyAndSize", spec := "fnWithinEmptyAndSize", apart := false }
def FnWithinEmptyAndSizeSaid : Prop := fnWithinEmptyAndSizeRow.holds Try.pinned (OpenSpec.ofChange fnWithinEmptyAndSizeSpec)

/-- ITS FALSE NEIGHBOUR: 'it returns false'. Refute it at one input. -/
def fnWithinEmptyAndSizeWrong : ChangeSpec := { name := "fnWithinEmptyAndSize", fn := fun _ => fun
  | [d1, d2] => { results := [.lit (.bool false)], args := [d1, d2] }
  | _ => none }
def FnWithinEmptyAndSizeWrongFalsely : Prop := fnWithinEmptyAndSizeRow.holds Try.pinned (OpenSpec.ofChange fnWithinEmptyAndSizeWrong)

/-- 'zzlaws_pkg_rbac_b1.FnWithinTransitive': WHATEVER THE INPUT: true; the input reads as it did. -/
def fnWithinTransitiveSpec : ChangeSpec := { name := "fnWithinTransitive", fn := fun _ => fun
  | [d1, d2, d3] => { results := [.lit (.bool true)], args := [d1, d2, d3] }
  | _ => none }
def fnWithinTransitiveRow : OpenClaim := { program := "qxb6602338a", sum := "892eba9d05adafad44c59683ef47986424b681735a093080956d18a9c9a173b5", func := "example.com/leafcutter/leafcutter/zzlaws_pkg_rbac_b1.FnWithinTransitive", spec := "fnWithinTransitive", apart := false }
def FnWithinTransitiveSaid : Prop := fnWithinTransitiveRow.holds Try.pinned (OpenSpec.ofChange fnWithinTransitiveSpec)

/-- ITS FALSE NEIGHBOUR: 'it returns false'. Refute it at one input. -/
def fnWithinTransitiveWrong : ChangeSpec := { name := "fnWithinTransitive", fn := fun _ => fun
  | [d1, d2, d3] => { results := [.lit (.bool false)], args := [d1, d2, d3] }
  | _ => none }
def FnWithinTransitiveWrongFalsely : Prop := fnWithinTransitiveRow.holds Try.pinned (OpenSpec.ofChange fnWithinTransitiveWrong)

end Rows
end Go.Proofs.Qxb6602338a
