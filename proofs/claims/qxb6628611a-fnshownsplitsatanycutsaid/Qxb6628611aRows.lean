/-
  No cell of these rows narrows 'for every input' (looked for: loops, veiled, ifaces, maps, wideKeys, modest, calm, conditions, laid).
  DERIVED. THE GIVEN ROWS OF THIS SEAT. 2 by the template 'for every input the law returns true; each argument reads behind the call as it read before'; 0 by the template 'total and deterministic' (their statements: Qxb6628611aTotals.lean).
  GIVEN WITH THE SEED: the statements are not yours to turn. If you find one false, say at which input.
  Laid BY PROGRAM, IN A SANDBOX (cutbox-rows.mjs): the forced cells as the released guide's own fill.sh prints them over the translation 0d15128bda58f3c8… (all of the seat's roots in one cut). By AI agents, Wed Nov 11 2026. No macro, syntax, notation, axiom, sorry.
-/
import Derived.Test.Qxb6628611aChecked
import GoSem.Claim
import GoSem.ClaimJoined
import GoSem.ClaimMapViews
import Derived.JoinedTies
import Derived.KernelRfl
namespace Go.Proofs.Qxb6628611a
/- THE CELL 'sum', in the pinned program and in every row, IS THE sha256 OF THE DUMP (.gsa) THAT Qxb6628611aProg.lean LOADS. Nothing in Lean hashes anything: it is a label: what it is worth is what the hold of that sum in a sandbox is worth. -/
noncomputable def Try.pinned : Pinned := { name := "qxb6628611a", sum := "0d15128bda58f3c8d94e91f777574baae9bafc62d0c211f9a59fa92fb3390f8f", checked := Try.checked }
namespace Rows
def none {H : Type} : Left H := { results := [], args := [] }

/-- 'zzlaws_pkg_policy_b1.FnShownAgreesWithEachRateAlone': WHATEVER THE INPUT: true; the input reads as it did. -/
def fnShownAgreesWithEachRateAloneSpec : ChangeSpec := { name := "fnShownAgreesWithEachRateAlone", fn := fun _ => fun
  | [d1, d2, d3] => { results := [.lit (.bool true)], args := [d1, d2, d3] }
  | _ => none }
def fnShownAgreesWithEachRateAloneRow : OpenClaim := { program := "qxb6628611a", sum := "0d15128bda58f3c8d94e91f777574baae9bafc62d0c211f9a59fa92fb3390f8f", func := "example.com/fairshare/fairshare/zzlaws_pkg_policy_b1.FnShownAgreesWithEachRateAlone", spec := "fnShownAgreesWithEachRateAlone", apart := false }
def FnShownAgreesWithEachRateAloneSaid : Prop := fnShownAgreesWithEachRateAloneRow.holds Try.pinned (OpenSpec.ofChange fnShownAgreesWithEachRateAloneSpec)

/-- ITS FALSE NEIGHBOUR: 'it returns false'. Refute it at one input. -/
def fnShownAgreesWithEachRateAloneWrong : ChangeSpec := { name := "fnShownAgreesWithEachRateAlone", fn := fun _ => fun
  | [d1, d2, d3] => { results := [.lit (.bool false)], args := [d1, d2, d3] }
  | _ => none }
def FnShownAgreesWithEachRateAloneWrongFalsely : Prop := fnShownAgreesWithEachRateAloneRow.holds Try.pinned (OpenSpec.ofChange fnShownAgreesWithEachRateAloneWrong)

/-- 'zzlaws_pkg_policy_b1.FnShownSplitsAtAnyCut': WHATEVER THE INPUT: true; the input reads as it did. -/
def fnShownSplitsAtAnyCutSpec : ChangeSpec := { name := "fnShownSplitsAtAnyCut", fn := fun _ => fun
  | [d1, d2, d3, d4] => { results := [.lit (.bool true)], args := [d1, d2, d3, d4] }
  | _ => none }
def fnShownSplitsAtAnyCutRow : OpenClaim := { program := "qxb6628611a", sum := "0d15128bda58f3c8d94e91f777574baae9bafc62d0c211f9a59fa92fb3390f8f", func := "example.com/fairshare/fairshare/zzlaws_pkg_policy_b1.FnShownSplitsAtAnyCut", spec := "fnShownSplitsAtAnyCut", apart := false }
def FnShownSplitsAtAnyCutSaid : Prop := fnShownSplitsAtAnyCutRow.holds Try.pinned (OpenSpec.ofChange fnShownSplitsAtAnyCutSpec)

/-- ITS FALSE NEIGHBOUR: 'it returns false'. Refute it at one input. -/
def fnShownSplitsAtAnyCutWrong : ChangeSpec := { name := "fnShownSplitsAtAnyCut", fn := fun _ => fun
  | [d1, d2, d3, d4] => { results := [.lit (.bool false)], args := [d1, d2, d3, d4] }
  | _ => none }
def FnShownSplitsAtAnyCutWrongFalsely : Prop := fnShownSplitsAtAnyCutRow.holds Try.pinned (OpenSpec.ofChange fnShownSplitsAtAnyCutWrong)

end Rows
end Go.Proofs.Qxb6628611a
