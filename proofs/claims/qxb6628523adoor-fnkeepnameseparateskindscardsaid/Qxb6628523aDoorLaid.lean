/-
  WHAT THE LISTED VARIABLES GIVE THE WALKS: the table of powers of ten; and a world that meets the condition (the heap that the door's own run leaves).
-/
import Derived.Test.Qxb6628523aDoorTie
import Derived.Test.Qxb6628523aDoorKeep
import Derived.ProofKit
import Derived.LaidMore
import Derived.OpenShut
import Derived.Stop.Joined
namespace Go.Proofs.Qxb6628523aDoor.Laid
open Go.ChangeShapes Go.WideShapes Go.ChangeAt Go.RowKit

/-- What both rows list. -/
def laid3 : List (String × DataW Unit) := Rows.fnKeepNameDecodesBackRow.laid

theorem own : ownKnob Tryd.prog.godebug = none := by kernel_rfl
theorem gpow : (Tryd.prog.globalNamed Tryd.powName).bind (fun g => (Tryd.prog.globals[g]?).map (·.type)) = some 41 := by kernel_rfl
theorem c22 : Tryd.prog.cellsOf 22 = 1 := by kernel_rfl
theorem c41 : Tryd.prog.cellsOf 41 = 20 := by kernel_rfl

/-- The door's own heap meets the condition. -/
theorem door_met (os : Os) (args : Array Value) : laidMetH Tryd.prog laid3 ((World.doorLaid Tryd.prog 24 os).forCall (fun _ _ => 0) ⟨#[], args, []⟩).memory :=
  laidMetH_of_parts3 (fuel := 8) (laidMet_of_run' 8 (by kernel_rfl) (by kernel_rfl)) (by kernel_rfl) (by kernel_rfl)

theorem pow_data : (Rows.laid_internal_strconv_uint64pow10 : DataW Unit) = Lib.tabData .u64 Lib.pow10Tab := by kernel_rfl

theorem tab_of {W : World} (h : laidMetH Tryd.prog laid3 W) : Keep.Tab W := by
  rw [MakeChecks.laidMetH_plain _ _ _ (by kernel_rfl)] at h
  obtain ⟨ps, ⟨g0, t0, cs0, f0, p0, q0, hg0, ht0, hv0, hd0, ⟨g1, t1, cs1, f1, p1, q1, hg1, ht1, hv1, hd1, ⟨g2, t2, cs2, f2, p2, q2, hg2, ht2, hv2, hd2, _, _⟩, _⟩, _⟩, _, _⟩ := h
  have ht : t2 = 41 := by
    have h := gpow
    have hg2' : Tryd.prog.globalNamed Tryd.powName = some g2 := hg2
    rw [hg2', Option.bind_some, ht2] at h
    exact Option.some.inj h
  subst ht
  rw [pow_data] at hd2
  unfold Keep.Tab Lib.TabIs
  refine hv2.trans ?_
  rw [← Lib.cells_of_tab Tryd.underlying41 Tryd.underlying22 c22 c41 hd2]
end Go.Proofs.Qxb6628523aDoor.Laid
