/-
  No cell of these rows narrows 'for every input' (looked for: loops, veiled, ifaces, maps, wideKeys, modest, calm, conditions, laid).
  DERIVED. THE GIVEN ROWS OF THIS SEAT. 2 by the template 'for every input the law returns true; each argument reads behind the call as it read before'; 0 by the template 'total and deterministic' (their statements: Qxb6628024aTotals.lean).
  GIVEN WITH THE SEED: the statements are not yours to turn. If you find one false, say at which input.
  Laid BY PROGRAM, IN A SANDBOX (cutbox-rows.mjs): the forced cells as the released guide's own fill.sh prints them over the translation 6c6dea10405f57a6… (all of the seat's roots in one cut). By AI agents, Wed Nov 11 2026. No macro, syntax, notation, axiom, sorry.
-/
import Derived.Test.Qxb6628024aChecked
import GoSem.Claim
import GoSem.ClaimJoined
import GoSem.ClaimMapViews
import Derived.JoinedTies
import Derived.KernelRfl
namespace Go.Proofs.Qxb6628024a
/- THE CELL 'sum', in the pinned program and in every row, IS THE sha256 OF THE DUMP (.gsa) THAT Qxb6628024aProg.lean LOADS. Nothing in Lean hashes anything: it is a label: what it is worth is what the hold of that sum in a sandbox is worth. -/
noncomputable def Try.pinned : Pinned := { name := "qxb6628024a", sum := "6c6dea10405f57a6b9c31a3eb238a2a103baeba11ce4807672ed84f12010cf93", checked := Try.checked }
namespace Rows
def none {H : Type} : Left H := { results := [], args := [] }

/-- 'zzlaws_internal_yamlcheck_b1.FnPlainNameIsBase64URLWordSplitAnywhere': WHATEVER THE INPUT: true; the input reads as it did. -/
def fnPlainNameIsBase64URLWordSplitAnywhereSpec : ChangeSpec := { name := "fnPlainNameIsBase64URLWordSplitAnywhere", fn := fun _ => fun
  | [d1, d2] => { results := [.lit (.bool true)], args := [d1, d2] }
  | _ => none }
def fnPlainNameIsBase64URLWordSplitAnywhereRow : OpenClaim := { program := "qxb6628024a", sum := "6c6dea10405f57a6b9c31a3eb238a2a103baeba11ce4807672ed84f12010cf93", func := "example.com/traceloom/traceloom/zzlaws_internal_yamlcheck_b1.FnPlainNameIsBase64URLWordSplitAnywhere", spec := "fnPlainNameIsBase64URLWordSplitAnywhere", apart := false }
def FnPlainNameIsBase64URLWordSplitAnywhereSaid : Prop := fnPlainNameIsBase64URLWordSplitAnywhereRow.holds Try.pinned (OpenSpec.ofChange fnPlainNameIsBase64URLWordSplitAnywhereSpec)

/-- ITS FALSE NEIGHBOUR: 'it returns false'. Refute it at one input. -/
def fnPlainNameIsBase64URLWordSplitAnywhereWrong : ChangeSpec := { name := "fnPlainNameIsBase64URLWordSplitAnywhere", fn := fun _ => fun
  | [d1, d2] => { results := [.lit (.bool false)], args := [d1, d2] }
  | _ => none }
def FnPlainNameIsBase64URLWordSplitAnywhereWrongFalsely : Prop := fnPlainNameIsBase64URLWordSplitAnywhereRow.holds Try.pinned (OpenSpec.ofChange fnPlainNameIsBase64URLWordSplitAnywhereWrong)

/-- 'zzlaws_internal_yamlcheck_b1.FnPlainNameOneByteInsertedAnywhere': WHATEVER THE INPUT: true; the input reads as it did. -/
def fnPlainNameOneByteInsertedAnywhereSpec : ChangeSpec := { name := "fnPlainNameOneByteInsertedAnywhere", fn := fun _ => fun
  | [d1, d2, d3] => { results := [.lit (.bool true)], args := [d1, d2, d3] }
  | _ => none }
def fnPlainNameOneByteInsertedAnywhereRow : OpenClaim := { program := "qxb6628024a", sum := "6c6dea10405f57a6b9c31a3eb238a2a103baeba11ce4807672ed84f12010cf93", func := "example.com/traceloom/traceloom/zzlaws_internal_yamlcheck_b1.FnPlainNameOneByteInsertedAnywhere", spec := "fnPlainNameOneByteInsertedAnywhere", apart := false }
def FnPlainNameOneByteInsertedAnywhereSaid : Prop := fnPlainNameOneByteInsertedAnywhereRow.holds Try.pinned (OpenSpec.ofChange fnPlainNameOneByteInsertedAnywhereSpec)

/-- ITS FALSE NEIGHBOUR: 'it returns false'. Refute it at one input. -/
def fnPlainNameOneByteInsertedAnywhereWrong : ChangeSpec := { name := "fnPlainNameOneByteInsertedAnywhere", fn := fun _ => fun
  | [d1, d2, d3] => { results := [.lit (.bool false)], args := [d1, d2, d3] }
  | _ => none }
def FnPlainNameOneByteInsertedAnywhereWrongFalsely : Prop := fnPlainNameOneByteInsertedAnywhereRow.holds Try.pinned (OpenSpec.ofChange fnPlainNameOneByteInsertedAnywhereWrong)

end Rows
end Go.Proofs.Qxb6628024a
