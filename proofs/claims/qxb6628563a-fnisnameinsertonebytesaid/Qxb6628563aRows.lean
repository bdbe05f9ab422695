/-
  No cell of these rows narrows 'for every input' (looked for: loops, veiled, ifaces, maps, wideKeys, modest, calm, conditions, laid).
  DERIVED. THE GIVEN ROWS OF THIS SEAT. 2 by the template 'for every input the law returns true; each argument reads behind the call as it read before'; 0 by the template 'total and deterministic' (their statements: Qxb6628563aTotals.lean).
  GIVEN WITH THE SEED: the statements are not yours to turn. If you find one false, say at which input.
  Laid BY PROGRAM, IN A SANDBOX (cutbox-rows.mjs): the forced cells as the released guide's own fill.sh prints them over the translation b86200ab67a7faf4… (all of the seat's roots in one cut). By AI agents, Wed Nov 11 2026. No macro, syntax, notation, axiom, sorry.
-/
import Derived.Test.Qxb6628563aChecked
import GoSem.Claim
import GoSem.ClaimJoined
import GoSem.ClaimMapViews
import Derived.JoinedTies
import Derived.KernelRfl
namespace Go.Proofs.Qxb6628563a
/- THE CELL 'sum', in the pinned program and in every row, IS THE sha256 OF THE DUMP (.gsa) THAT Qxb6628563aProg.lean LOADS. Nothing in Lean hashes anything: it is a label: what it is worth is what the hold of that sum in a sandbox is worth. -/
noncomputable def Try.pinned : Pinned := { name := "qxb6628563a", sum := "b86200ab67a7faf436ffcdb423488b3a2b3052faf255a521b6f4033aa6cdb695", checked := Try.checked }
namespace Rows
def none {H : Type} : Left H := { results := [], args := [] }

/-- 'zzlaws_internal_lines_b1.FnIsNameByItsBytes': WHATEVER THE INPUT: true; the input reads as it did. -/
def fnIsNameByItsBytesSpec : ChangeSpec := { name := "fnIsNameByItsBytes", fn := fun _ => fun
  | [d] => { results := [.lit (.bool true)], args := [d] }
  | _ => none }
def fnIsNameByItsBytesRow : OpenClaim := { program := "qxb6628563a", sum := "b86200ab67a7faf436ffcdb423488b3a2b3052faf255a521b6f4033aa6cdb695", func := "example.com/eventide/eventide/zzlaws_internal_lines_b1.FnIsNameByItsBytes", spec := "fnIsNameByItsBytes", apart := false }
def FnIsNameByItsBytesSaid : Prop := fnIsNameByItsBytesRow.holds Try.pinned (OpenSpec.ofChange fnIsNameByItsBytesSpec)

/-- ITS FALSE NEIGHBOUR: 'it returns false'. Refute it at one input. -/
def fnIsNameByItsBytesWrong : ChangeSpec := { name := "fnIsNameByItsBytes", fn := fun _ => fun
  | [d] => { results := [.lit (.bool false)], args := [d] }
  | _ => none }
def FnIsNameByItsBytesWrongFalsely : Prop := fnIsNameByItsBytesRow.holds Try.pinned (OpenSpec.ofChange fnIsNameByItsBytesWrong)

/-- 'zzlaws_internal_lines_b1.FnIsNameInsertOneByte': WHATEVER THE INPUT: true; the input reads as it did. -/
def fnIsNameInsertOneByteSpec : ChangeSpec := { name := "fnIsNameInsertOneByte", fn := fun _ => fun
  | [d1, d2, d3] => { results := [.lit (.bool true)], args := [d1, d2, d3] }
  | _ => none }
def fnIsNameInsertOneByteRow : OpenClaim := { program := "qxb6628563a", sum := "b86200ab67a7faf436ffcdb423488b3a2b3052faf255a521b6f4033aa6cdb695", func := "example.com/eventide/eventide/zzlaws_internal_lines_b1.FnIsNameInsertOneByte", spec := "fnIsNameInsertOneByte", apart := false }
def FnIsNameInsertOneByteSaid : Prop := fnIsNameInsertOneByteRow.holds Try.pinned (OpenSpec.ofChange fnIsNameInsertOneByteSpec)

/-- ITS FALSE NEIGHBOUR: 'it returns false'. Refute it at one input. -/
def fnIsNameInsertOneByteWrong : ChangeSpec := { name := "fnIsNameInsertOneByte", fn := fun _ => fun
  | [d1, d2, d3] => { results := [.lit (.bool false)], args := [d1, d2, d3] }
  | _ => none }
def FnIsNameInsertOneByteWrongFalsely : Prop := fnIsNameInsertOneByteRow.holds Try.pinned (OpenSpec.ofChange fnIsNameInsertOneByteWrong)

end Rows
end Go.Proofs.Qxb6628563a
