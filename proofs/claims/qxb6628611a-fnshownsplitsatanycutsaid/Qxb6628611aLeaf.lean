/-
  THE WALKS OF THE LEAVES: Duration.Seconds (12), Rate.shown (11).
-/
import Derived.Test.Qxb6628611aRows
import Derived.Test.Qxb6628611aSecs
import Derived.WalkKit
import Derived.WalkSpells
import Derived.WalkLawsBesides
import Derived.Laws.FloatArith
import Derived.RegionTactic
import Derived.Below
import Derived.Deep.RegionWith
namespace Go.Proofs.Qxb6628611a.Leaf
open Go.RowKit
set_option linter.unusedSimpArgs false
set_option linter.unusedVariables false

/-- A float stored into a cell: the kit's laws on stores have none for it. -/
theorem run_store_float {P : Program} (w : World) (a : Addr) (m : Mode) (k : FloatKind) (b : Nat) : (store a (.float k b) m).run P w = stored P w a (.float k b) m := run_store P w a _ m rfl
attribute [local go_sem] run_store_float

theorem fInt_eq (n : Int) : floatOfInt .f64 n = Fl.fInt n := rfl

theorem ret_f64 {a b : Nat} (h : a = b) : Ending.returned (.float .f64 a) = .returned (.float .f64 b) := by rw [h]

set_option maxHeartbeats 1000000 in
theorem seconds_any (W : Int) (w : World) (h0 : -9223372036854775808 ≤ W) (h1 : W ≤ 9223372036854775807) :
    Calls Try.prog 12 #[.int .i64 W] w fun e w' => e = .returned (.float .f64 (Fl.secs W)) ∧ w = w' := by
  obtain ⟨q1, q2, _⟩ := Fl.secs_all W h0 h1
  have r1 := fun (w : World) => run_float_arith (P := Try.prog) w .quo 32 .f64 (floatOfInt .f64 (W.tmod 1000000000)) 4741671816366391296 _ q1
  have r2 := fun (w : World) => run_float_arith (P := Try.prog) w .add 32 .f64 (floatOfInt .f64 (W.tdiv 1000000000)) _ _ q2
  clear q1 q2
  go_enter Try.func12, Try.ntmps12
  go_wp2
  go_ret
  exact ⟨rfl, rfl⟩

set_option maxHeartbeats 1000000 in
theorem shown_any (T W : Int) (w : World) (h0 : -9223372036854775808 ≤ W) (h1 : W ≤ 9223372036854775807) :
    Calls Try.prog 11 #[.agg #[.int .u32 T, .int .i64 W]] w fun e w' => e = .returned (.agg #[.int .u32 T, .float .f64 (Fl.secs W)]) ∧ Below w.heap.size w w' := by
  go_enter Try.func11, Try.ntmps11
  go_wp2
  go_region_with (go_at_call 12; refine (seconds_any _ _ h0 h1).mono ?_; rintro e w' ⟨rfl, rfl⟩)
  all_goals
    go_wp2
    exact bodyPost_ret (v := .agg #[.int .u32 T, .float .f64 (Fl.secs W)]) (by simp [results, Try.results11, go_sem]) rfl ⟨rfl, (((Below.refl _ w).alloc (Nat.le_refl _) _).alloc (by simp) _).drew⟩
end Go.Proofs.Qxb6628611a.Leaf
