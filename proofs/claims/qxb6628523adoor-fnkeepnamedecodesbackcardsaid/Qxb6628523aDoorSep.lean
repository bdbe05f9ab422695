/-
  THE WALK OF 'FnKeepNameSeparatesKinds' (4).
-/
import Derived.Test.Qxb6628523aDoorDec
namespace Go.Proofs.Qxb6628523aDoor.Sep
open Go.RowKit Keep
set_option linter.unusedSimpArgs false
set_option linter.unusedVariables false

/-- String, its answer as some string of known bytes. -/
theorem string_val (r a : Bool) (u : Nat) (hu : u < 18446744073709551616) (w0 w : World) (ht : Tab w0) (hb : Below w0.heap.size w0 w) :
    Calls Tryd.prog 6 #[.agg #[.bool r, .bool a, .int .u64 u]] w fun e w' => ∃ t : ByteArray, e = .returned (.string t) ∧ Hid (t.toList = name r a u) ∧ Below w0.heap.size w0 w' := by
  refine (string_any r a u hu w (tab_below ht hb)).mono ?_
  rintro e w' ⟨rfl, h⟩
  exact ⟨_, rfl, by rw [Hid, Lib.toList_data], hb.trans (h.mono hb.size)⟩

theorem new_val (r a : Bool) (u : Int) (w0 w : World) (hb : Below w0.heap.size w0 w) :
    Calls Tryd.prog 5 #[.bool r, .bool a, .int .u64 u] w fun e w' => e = .returned (.agg #[.bool r, .bool a, .int .u64 u]) ∧ Below w0.heap.size w0 w' := by
  refine (new_any r a u w).mono ?_
  rintro e w' ⟨rfl, h⟩
  exact ⟨rfl, hb.trans (h.mono hb.size)⟩

set_option maxHeartbeats 1000000 in
theorem walk (r1 a1 r2 a2 : Bool) (u1 u2 : Nat) (h1 : u1 < 18446744073709551616) (h2 : u2 < 18446744073709551616) (w : World) (ht0 : Tab w) :
    Calls Tryd.prog 4 #[.bool r1, .bool a1, .int .u64 u1, .bool r2, .bool a2, .int .u64 u2] w fun e w' => e = .returned (.bool true) ∧ Below w.heap.size w w' := by
  have ht : Hid (Tab w) := ht0
  clear ht0
  go_enter Tryd.func4, Tryd.ntmps4
  go_wp2_with fail
  refine (new_val r1 a1 u1 w _ (Below.refl _ _)).mono ?_
  rintro e w1 ⟨rfl, hb1⟩
  go_wp2_with fail
  refine (string_val r1 a1 u1 h1 w _ ht.out hb1).mono ?_
  rintro e w2 ⟨t1, rfl, n1, hb2⟩
  go_wp2_with fail
  refine (new_val r2 a2 u2 w _ hb2).mono ?_
  rintro e w3 ⟨rfl, hb3⟩
  go_wp2_with fail
  refine (string_val r2 a2 u2 h2 w _ ht.out hb3).mono ?_
  rintro e w4 ⟨t2, rfl, n2, hb4⟩
  clear hb1 hb2 hb3
  cases r1 <;> cases r2
  · have hc : (t1.toList == t2.toList) = (a1 == a2) := by
      rw [n1.out, n2.out, Bool.eq_iff_iff, beq_iff_eq, beq_iff_eq, Dec.name_nn]
    go_wp2
    go_ret
    exact ⟨rfl, hb4⟩
  · have hc : (t1.toList == t2.toList) = false := by
      rw [n1.out, n2.out, beq_eq_false_iff_ne]; exact (Dec.name_rn _ _ _ _).symm
    go_wp2
    go_ret
    exact ⟨rfl, hb4⟩
  · have hc : (t1.toList == t2.toList) = false := by
      rw [n1.out, n2.out, beq_eq_false_iff_ne]; exact Dec.name_rn _ _ _ _
    go_wp2
    go_ret
    exact ⟨rfl, hb4⟩
  · have hc : (t1.toList == t2.toList) = ((u1 : Int) == (u2 : Int)) := by
      rw [n1.out, n2.out, Bool.eq_iff_iff, beq_iff_eq, beq_iff_eq, Dec.name_rr]; omega
    go_wp2
    go_ret
    exact ⟨rfl, hb4⟩
end Go.Proofs.Qxb6628523aDoor.Sep
