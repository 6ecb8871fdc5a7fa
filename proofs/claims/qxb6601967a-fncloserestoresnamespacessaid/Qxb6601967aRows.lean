/-
  No cell of these rows narrows 'for every input' (looked for: loops, veiled, ifaces, maps, wideKeys, modest, calm, conditions, laid).
  DERIVED. THE GIVEN ROWS OF THIS SEAT. 4 by the template 'for every input the law returns true; each argument reads behind the call as it read before'; 0 by the template 'total and deterministic' (their statements: Qxb6601967aTotals.lean).
  GIVEN WITH THE SEED: the statements are not yours to turn. If you find one false, say at which input.
  Laid BY PROGRAM, IN A SANDBOX (cutbox-rows.mjs): the forced cells as the released guide's own fill.sh prints them over the translation 3669824ac63722d4… (all of the seat's roots in one cut). By AI agents, Wed Nov 11 2026. No macro, syntax, notation, axiom, sorry.
-/
import Derived.Test.Qxb6601967aChecked
import GoSem.Claim
import GoSem.ClaimJoined
import GoSem.ClaimMapViews
import Derived.JoinedTies
import Derived.KernelRfl
namespace Go.Proofs.Qxb6601967a
/- THE CELL 'sum', in the pinned program and in every row, IS THE sha256 OF THE DUMP (.gsa) THAT Qxb6601967aProg.lean LOADS. Nothing in Lean hashes anything: it is a label: what it is worth is what the hold of that sum in a sandbox is worth. -/
noncomputable def Try.pinned : Pinned := { name := "qxb6601967a", sum := "3669824ac63722d4128467d95bf4fd07823e54320a4db4c898bfeb1705f32fbf", checked := Try.checked }
namespace Rows
def none {H : Type} : Left H := { results := [], args := [] }

/-- 'zzlaws_internal_xmltree_b1.FnResolveMatchesCaseTable': WHATEVER THE INPUT: true; the input reads as it did. -/
def fnResolveMatchesCaseTableSpec : ChangeSpec := { name := "fnResolveMatchesCaseTable", fn := fun _ => fun
  | [d1, d2, d3, d4] => { results := [.lit (.bool true)], args := [d1, d2, d3, d4] }
  | _ => none }
def fnResolveMatchesCaseTableRow : OpenClaim := { program := "qxb6601967a", sum := "3669824ac63722d4128467d95bf4fd07823e54320a4db4c898bfeb1705f32fbf", func := "example.com/teasel/teasel/zzlaws_internal_xmltree_b1.FnResolveMatchesCaseTable", spec := "fnResolveMatchesCaseTable", inPlace := ["internal/bytealg.IndexByteString", "internal/bytealg.IndexString"], named := ["internal/bytealg.MaxLen"], apart := false }
def FnResolveMatchesCaseTableSaid : Prop := fnResolveMatchesCaseTableRow.holds Try.pinned (OpenSpec.ofChange fnResolveMatchesCaseTableSpec)

/-- ITS FALSE NEIGHBOUR: 'it returns false'. Refute it at one input. -/
def fnResolveMatchesCaseTableWrong : ChangeSpec := { name := "fnResolveMatchesCaseTable", fn := fun _ => fun
  | [d1, d2, d3, d4] => { results := [.lit (.bool false)], args := [d1, d2, d3, d4] }
  | _ => none }
def FnResolveMatchesCaseTableWrongFalsely : Prop := fnResolveMatchesCaseTableRow.holds Try.pinned (OpenSpec.ofChange fnResolveMatchesCaseTableWrong)

/-- 'zzlaws_internal_xmltree_b1.FnResolveCacheAgreesWithFresh': WHATEVER THE INPUT: true; the input reads as it did. -/
def fnResolveCacheAgreesWithFreshSpec : ChangeSpec := { name := "fnResolveCacheAgreesWithFresh", fn := fun _ => fun
  | [d1, d2, d3, d4, d5, d6] => { results := [.lit (.bool true)], args := [d1, d2, d3, d4, d5, d6] }
  | _ => none }
def fnResolveCacheAgreesWithFreshRow : OpenClaim := { program := "qxb6601967a", sum := "3669824ac63722d4128467d95bf4fd07823e54320a4db4c898bfeb1705f32fbf", func := "example.com/teasel/teasel/zzlaws_internal_xmltree_b1.FnResolveCacheAgreesWithFresh", spec := "fnResolveCacheAgreesWithFresh", inPlace := ["internal/bytealg.IndexByteString", "internal/bytealg.IndexString"], named := ["internal/bytealg.MaxLen"], apart := false }
def FnResolveCacheAgreesWithFreshSaid : Prop := fnResolveCacheAgreesWithFreshRow.holds Try.pinned (OpenSpec.ofChange fnResolveCacheAgreesWithFreshSpec)

/-- ITS FALSE NEIGHBOUR: 'it returns false'. Refute it at one input. -/
def fnResolveCacheAgreesWithFreshWrong : ChangeSpec := { name := "fnResolveCacheAgreesWithFresh", fn := fun _ => fun
  | [d1, d2, d3, d4, d5, d6] => { results := [.lit (.bool false)], args := [d1, d2, d3, d4, d5, d6] }
  | _ => none }
def FnResolveCacheAgreesWithFreshWrongFalsely : Prop := fnResolveCacheAgreesWithFreshRow.holds Try.pinned (OpenSpec.ofChange fnResolveCacheAgreesWithFreshWrong)

/-- 'zzlaws_internal_xmltree_b1.FnCloseMatchesModel': WHATEVER THE INPUT: true; the input reads as it did. -/
def fnCloseMatchesModelSpec : ChangeSpec := { name := "fnCloseMatchesModel", fn := fun _ => fun
  | [d1, d2, d3, d4, d5, d6, d7] => { results := [.lit (.bool true)], args := [d1, d2, d3, d4, d5, d6, d7] }
  | _ => none }
def fnCloseMatchesModelRow : OpenClaim := { program := "qxb6601967a", sum := "3669824ac63722d4128467d95bf4fd07823e54320a4db4c898bfeb1705f32fbf", func := "example.com/teasel/teasel/zzlaws_internal_xmltree_b1.FnCloseMatchesModel", spec := "fnCloseMatchesModel", apart := false }
def FnCloseMatchesModelSaid : Prop := fnCloseMatchesModelRow.holds Try.pinned (OpenSpec.ofChange fnCloseMatchesModelSpec)

/-- ITS FALSE NEIGHBOUR: 'it returns false'. Refute it at one input. -/
def fnCloseMatchesModelWrong : ChangeSpec := { name := "fnCloseMatchesModel", fn := fun _ => fun
  | [d1, d2, d3, d4, d5, d6, d7] => { results := [.lit (.bool false)], args := [d1, d2, d3, d4, d5, d6, d7] }
  | _ => none }
def FnCloseMatchesModelWrongFalsely : Prop := fnCloseMatchesModelRow.holds Try.pinned (OpenSpec.ofChange fnCloseMatchesModelWrong)

/-- 'zzlaws_internal_xmltree_b1.FnCloseRestoresNamespaces': WHATEVER THE INPUT: true; the input reads as it did. -/
def fnCloseRestoresNamespacesSpec : ChangeSpec := { name := "fnCloseRestoresNamespaces", fn := fun _ => fun
  | [d1, d2, d3, d4, d5, d6, d7] => { results := [.lit (.bool true)], args := [d1, d2, d3, d4, d5, d6, d7] }
  | _ => none }
def fnCloseRestoresNamespacesRow : OpenClaim := { program := "qxb6601967a", sum := "3669824ac63722d4128467d95bf4fd07823e54320a4db4c898bfeb1705f32fbf", func := "example.com/teasel/teasel/zzlaws_internal_xmltree_b1.FnCloseRestoresNamespaces", spec := "fnCloseRestoresNamespaces", inPlace := ["internal/bytealg.IndexByteString", "internal/bytealg.IndexString"], named := ["internal/bytealg.MaxLen"], apart := false }
def FnCloseRestoresNamespacesSaid : Prop := fnCloseRestoresNamespacesRow.holds Try.pinned (OpenSpec.ofChange fnCloseRestoresNamespacesSpec)

/-- ITS FALSE NEIGHBOUR: 'it returns false'. Refute it at one input. -/
def fnCloseRestoresNamespacesWrong : ChangeSpec := { name := "fnCloseRestoresNamespaces", fn := fun _ => fun
  | [d1, d2, d3, d4, d5, d6, d7] => { results := [.lit (.bool false)], args := [d1, d2, d3, d4, d5, d6, d7] }
  | _ => none }
def FnCloseRestoresNamespacesWrongFalsely : Prop := fnCloseRestoresNamespacesRow.holds Try.pinned (OpenSpec.ofChange fnCloseRestoresNamespacesWrong)

end Rows
end Go.Proofs.Qxb6601967a
