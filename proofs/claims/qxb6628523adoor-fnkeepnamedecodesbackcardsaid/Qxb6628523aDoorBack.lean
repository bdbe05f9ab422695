/-
  THE WALK OF 'FnKeepNameDecodesBack' (3).
-/
import Derived.Test.Qxb6628523aDoorDecode
import Derived.Test.Qxb6628523aDoorSep
namespace Go.Proofs.Qxb6628523aDoor.Back
open Go.RowKit Keep
open _root_.Go.Proofs.Qxb6628523aDoor.Sep (string_val new_val)
set_option linter.unusedSimpArgs false
set_option linter.unusedVariables false

theorem size_of {t : ByteArray} {l : List UInt8} (h : t.toList = l) : t.size = l.length := by
  rw [← h, Lib.toList_data]; simp

theorem cut_left {t : ByteArray} {u : Nat} (h : t.toList = rnd ++ Lib.decDigits u) : ((t.extract 0 7).toList == [114, 97, 110, 100, 111, 109, 58]) = true := by
  rw [Lib.extract_toList, ← Lib.toList_data, h]
  simp [rnd]

theorem cut_right {t : ByteArray} {u : Nat} (h : t.toList = rnd ++ Lib.decDigits u) : (t.extract 7 t.size).data.toList = Lib.decDigits u := by
  rw [Lib.extract_data, ← Lib.toList_data, h, List.take_of_length_le]
  · simp [rnd]
  · rw [size_of h]; simp [rnd]

set_option maxHeartbeats 1000000 in
theorem walk_random (a : Bool) (u : Nat) (hu : u < 18446744073709551616) (w : World) (ht0 : Tab w) :
    Calls Tryd.prog 3 #[.bool true, .bool a, .int .u64 u] w fun e w' => e = .returned (.bool true) ∧ Below w.heap.size w w' := by
  have ht : Hid (Tab w) := ht0
  clear ht0
  go_enter Tryd.func3, Tryd.ntmps3
  go_wp2_with fail
  refine (new_val true a u w _ (Below.refl _ _)).mono ?_
  rintro e w1 ⟨rfl, hb1⟩
  go_wp2_with fail
  refine (string_val true a u hu w _ ht.out hb1).mono ?_
  rintro e w2 ⟨t1, rfl, n1, hb2⟩
  go_wp2_with fail
  refine (new_val true (!a) u w _ hb2).mono ?_
  rintro e w3 ⟨rfl, hb3⟩
  go_wp2_with fail
  refine (string_val true (!a) u hu w _ ht.out hb3).mono ?_
  rintro e w4 ⟨t2, rfl, n2, hb4⟩
  clear hb1 hb2 hb3
  have m1 : Hid (t1.toList = rnd ++ Lib.decDigits u) := n1
  have hc' : (t2.toList == t1.toList) = true := by rw [n1.out, n2.out]; simp [name]
  have hs : 8 ≤ t1.size := by
    rw [size_of m1.out]; simp [rnd]
    have := Lib.nDigits_pos u
    rw [Lib.decDigits_length]; omega
  have hl := cut_left m1.out
  go_wp2_with fail
  refine (Decode.decode u hu _ (cut_right m1.out) _).mono ?_
  rintro e w5 ⟨rfl, rfl⟩
  go_wp2
  go_ret
  exact ⟨rfl, hb4⟩

/-- String of a Keep that is not random, whatever its seed. -/
theorem string_plain (a : Bool) (u : Int) (w0 w : World) (hb : Below w0.heap.size w0 w) :
    Calls Tryd.prog 6 #[.agg #[.bool false, .bool a, .int .u64 u]] w fun e w' => ∃ t : ByteArray, e = .returned (.string t) ∧ Hid (t.toList = name false a 0) ∧ Below w0.heap.size w0 w' := by
  cases a with
  | true =>
    go_enter Tryd.func6, Tryd.ntmps6
    go_wp2
    go_ret
    exact ⟨_, rfl, by rw [Hid, Lib.toList_data]; rfl, hb.alloc hb.size _⟩
  | false =>
    go_enter Tryd.func6, Tryd.ntmps6
    go_wp2
    go_ret
    exact ⟨_, rfl, by rw [Hid, Lib.toList_data]; rfl, hb.alloc hb.size _⟩

set_option maxHeartbeats 1000000 in
theorem walk_plain (a : Bool) (u : Int) (w : World) :
    Calls Tryd.prog 3 #[.bool false, .bool a, .int .u64 u] w fun e w' => e = .returned (.bool true) ∧ Below w.heap.size w w' := by
  go_enter Tryd.func3, Tryd.ntmps3
  go_wp2_with fail
  refine (new_val false a u w _ (Below.refl _ _)).mono ?_
  rintro e w1 ⟨rfl, hb1⟩
  go_wp2_with fail
  refine (string_plain a u w _ hb1).mono ?_
  rintro e w2 ⟨t1, rfl, n1, hb2⟩
  go_wp2_with fail
  refine (new_val false a _ w _ hb2).mono ?_
  rintro e w3 ⟨rfl, hb3⟩
  go_wp2_with fail
  refine (string_plain a _ w _ hb3).mono ?_
  rintro e w4 ⟨t2, rfl, n2, hb4⟩
  clear hb1 hb2 hb3
  have hc' : (t2.toList == t1.toList) = true := by rw [n1.out, n2.out]; simp
  cases a with
  | true =>
    have ha : (t1.toList == [97, 108, 108]) = true := by rw [n1.out]; rfl
    go_wp2
    go_ret
    exact ⟨rfl, hb4⟩
  | false =>
    have ha : (t1.toList == [110, 111, 110, 101]) = true := by rw [n1.out]; rfl
    go_wp2
    go_ret
    exact ⟨rfl, hb4⟩
end Go.Proofs.Qxb6628523aDoor.Back
