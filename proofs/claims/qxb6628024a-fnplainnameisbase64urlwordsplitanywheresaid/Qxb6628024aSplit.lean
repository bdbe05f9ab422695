/-
  THE WALK OF 'FnPlainNameIsBase64URLWordSplitAnywhere' (3), with zzBytes (5) and zzb1AllBase64URL (6).
-/
import Derived.Test.Qxb6628024aLeaf
import Derived.WalkLawsBesides
namespace Go.Proofs.Qxb6628024a.Split
open Go.RowKit
set_option linter.unusedSimpArgs false
set_option linter.unusedVariables false
open Leaf

theorem bytes_yes (s : ByteArray) (i : Int) (w : World) (h : s.size ≤ 1048576) :
    Calls Try.prog 5 #[.string s, .int .i64 i] w fun e w' => e = .returned (.bool true) ∧ w = w' := by
  go_enter Try.func5, Try.ntmps5
  go_wp2
  go_ret
  exact ⟨rfl, rfl⟩

theorem bytes_no (s : ByteArray) (i : Int) (w : World) (h : 1048576 < s.size) :
    Calls Try.prog 5 #[.string s, .int .i64 i] w fun e w' => e = .returned (.bool false) ∧ w = w' := by
  go_enter Try.func5, Try.ntmps5
  go_wp2
  go_ret
  exact ⟨rfl, rfl⟩

set_option maxHeartbeats 1000000 in
theorem all64_any (s : ByteArray) (w : World) (hs : s.size ≤ 1048576) :
    Calls Try.prog 6 #[.string s] w fun e w' => e = .returned (.bool (P.allOk s.data.toList)) ∧ w = w' := by
  go_enter Try.func6, Try.ntmps6
  go_wp2
  go_loop [3] (fun i => ∃ k : Nat, k ≤ s.size ∧ i = .int .i64 k ∧ Hid (P.allOk (s.data.toList.take k) = true)) (fun i => s.size - (intOf i).toNat)
  case atStart => exact ⟨0, Nat.zero_le _, rfl, rfl⟩
  case round =>
    obtain ⟨k, hk, rfl, hall⟩ := hrel
    by_cases hlt : k < s.size
    · go_wp2_with fail
      have hb := s[k].toNat_lt
      refine (in64_any (s[k].toNat : Int) _ (by omega) (by omega)).mono ?_
      rintro e w' ⟨rfl, rfl⟩
      have e0 : P.okI (s[k].toNat : Int) = P.okB (s.data.toList.getD k 0) := by rw [← P.at_getD s k hlt]; rfl
      rw [e0]
      clear e0 hb
      cases hok : P.okB (s.data.toList.getD k 0) with
      | true =>
        have HX : Hid (P.okB (s.data.toList.getD k 0) = true) := hok
        clear hok
        go_wp2
        exact ⟨⟨k + 1, by omega, by go_num, P.allOk_take_t s k hlt hall.out HX.out⟩, by simp [intOf]; omega⟩
      | false =>
        have HX : Hid (P.okB (s.data.toList.getD k 0) = false) := hok
        clear hok
        go_wp2
        go_ret
        exact ⟨ret_bool (P.allOk_f_of _ k (by simpa using hlt) HX.out).symm, rfl⟩
    · go_wp2
      go_ret
      exact ⟨ret_bool (by rw [P.allOk_whole s k hlt hall.out]), rfl⟩

theorem walk_big (s : ByteArray) (i : Int) (w : World) (h : 1048576 < s.size) :
    Calls Try.prog 3 #[.string s, .int .i64 i] w fun e w' => e = .returned (.bool true) ∧ w = w' := by
  go_enter Try.func3, Try.ntmps3
  go_wp2_with (go_at_call 5; refine (bytes_no _ _ _ h).mono ?_; rintro e w' ⟨rfl, rfl⟩)
  go_ret
  exact ⟨rfl, rfl⟩

theorem walk_out (s : ByteArray) (i : Int) (w : World) (h : s.size ≤ 1048576) (hi : i < 0 ∨ (s.size : Int) < i) :
    Calls Try.prog 3 #[.string s, .int .i64 i] w fun e w' => e = .returned (.bool true) ∧ w = w' := by
  rcases hi with hi | hi
  · go_enter Try.func3, Try.ntmps3
    go_wp2_with (go_at_call 5; refine (bytes_yes _ _ _ h).mono ?_; rintro e w' ⟨rfl, rfl⟩)
    go_ret
    exact ⟨rfl, rfl⟩
  · have hn : ¬ i < 0 := by omega
    go_enter Try.func3, Try.ntmps3
    go_wp2_with (go_at_call 5; refine (bytes_yes _ _ _ h).mono ?_; rintro e w' ⟨rfl, rfl⟩)
    go_ret
    exact ⟨rfl, rfl⟩

/-- PlainName, where its answer is known, in a world that has grown from w0. -/
theorem plain_val {w : World} (w0 : World) {s : ByteArray} (v : Bool) (hs : s.size ≤ maxLen) (hv : Hid (P.plain s.data.toList = v)) (hb : Below w0.heap.size w0 w) :
    Calls Try.prog 7 #[.string s] w fun e w' => e = .returned (.bool v) ∧ Below w0.heap.size w0 w' := by
  refine (plain_any s w hs).mono ?_
  rintro e w' ⟨rfl, h⟩
  exact ⟨ret_bool hv.out, hb.trans (h.mono hb.size)⟩

/-- The empty string. -/
theorem walk_empty (s : ByteArray) (w : World) (h : s.size = 0) :
    Calls Try.prog 3 #[.string s, .int .i64 0] w fun e w' => e = .returned (.bool true) ∧ Below w.heap.size w w' := by
  have he : s = ⟨#[]⟩ := by
    apply ByteArray.ext
    exact Array.eq_empty_of_size_eq_zero h
  subst he
  have v1 : Hid (P.plain (ByteArray.mk #[]).data.toList = false) := rfl
  clear h
  go_enter Try.func3, Try.ntmps3
  go_wp2_with (first
    | (go_at_call 5; refine (bytes_yes _ _ _ (by decide)).mono ?_; rintro e w' ⟨rfl, rfl⟩)
    | (go_at_call 7; refine (plain_val w false (by decide) v1 (Below.refl _ _)).mono ?_; rintro e w' ⟨rfl, hb⟩))
  go_ret
  exact ⟨rfl, hb⟩

theorem more_of {s : ByteArray} (h : 0 < s.size) : s.toList.isEmpty = false := by
  rw [Lib.toList_data]
  cases e : s.data.toList with
  | nil => have : s.data.toList.length = 0 := by rw [e]; rfl
           have h2 : s.data.toList.length = s.size := by simp
           omega
  | cons a l => rfl

theorem plain_left (s : ByteArray) (i : Nat) (h0 : 0 < i) (h1 : i ≤ s.size) : P.plain (s.extract 0 i).data.toList = P.allOk (s.data.toList.take i) := by
  have hs : 0 < (s.extract 0 i).size := by simp [ByteArray.size_extract]; omega
  rw [plain_more (more_of hs), Lib.extract_data]
  simp

theorem plain_right (s : ByteArray) (i : Nat) (h1 : i < s.size) : P.plain (s.extract i s.size).data.toList = P.allOk (s.data.toList.drop i) := by
  have hs : 0 < (s.extract i s.size).size := by simp [ByteArray.size_extract]; omega
  rw [plain_more (more_of hs), Lib.extract_data]
  rw [List.take_of_length_le (by simp)]

set_option maxHeartbeats 1000000 in
theorem walk_mid (s : ByteArray) (i : Nat) (w : World) (h : s.size ≤ 1048576) (h0 : 0 < i) (h1 : i < s.size) :
    Calls Try.prog 3 #[.string s, .int .i64 i] w fun e w' => e = .returned (.bool true) ∧ Below w.heap.size w w' := by
  have c0 : ((i : Int) == 0) = false := by simp; omega
  have c1 : ((i : Int) == (s.size : Int)) = false := by simp; omega
  have he : s.toList.isEmpty = false := more_of (by omega)
  have v1 : Hid (P.plain (s.extract 0 i).data.toList = P.allOk (s.data.toList.take i)) := plain_left s i h0 (by omega)
  have v2 : Hid (P.plain (s.extract i s.size).data.toList = P.allOk (s.data.toList.drop i)) := plain_right s i h1
  have v3 : Hid (P.allOk s.data.toList = (P.allOk (s.data.toList.take i) && P.allOk (s.data.toList.drop i))) := P.allOk_cut _ i
  have v4 : Hid (P.plain s.data.toList = (P.allOk (s.data.toList.take i) && P.allOk (s.data.toList.drop i))) := (plain_more he).trans v3.out
  generalize P.allOk (s.data.toList.take i) = L at *
  generalize P.allOk (s.data.toList.drop i) = R at *
  have y0 : s.size ≤ maxLen := by unfold maxLen; omega
  have y1 : (s.extract 0 i).size ≤ maxLen := by simp [ByteArray.size_extract]; omega
  have y2 : (s.extract i s.size).size ≤ maxLen := by simp [ByteArray.size_extract]; omega
  go_enter Try.func3, Try.ntmps3
  go_wp2_with (first
    | (go_at_call 5; refine (bytes_yes _ _ _ h).mono ?_; rintro e w' ⟨rfl, rfl⟩))
  refine (all64_any s w h).mono ?_
  rintro e w' ⟨rfl, rfl⟩
  rw [v3.out]
  cases L <;> cases R <;> (
    go_wp2_with fail
    refine (plain_val w _ y0 v4 (Below.refl _ _)).mono ?_
    rintro e w1 ⟨rfl, hb1⟩
    go_wp2_with fail
    refine (plain_val w _ y1 v1 hb1).mono ?_
    rintro e w2 ⟨rfl, hb2⟩
    go_wp2_with fail
    refine (plain_val w _ y2 v2 hb2).mono ?_
    rintro e w3 ⟨rfl, hb3⟩
    go_wp2
    go_ret
    exact ⟨rfl, hb3⟩)

set_option maxHeartbeats 1000000 in
theorem walk_left (s : ByteArray) (w : World) (h : s.size ≤ 1048576) (h1 : 0 < s.size) :
    Calls Try.prog 3 #[.string s, .int .i64 0] w fun e w' => e = .returned (.bool true) ∧ Below w.heap.size w w' := by
  have c1 : ((0 : Int) == (s.size : Int)) = false := by simp; omega
  have he : s.toList.isEmpty = false := more_of (by omega)
  have v4 : Hid (P.plain s.data.toList = P.allOk s.data.toList) := plain_more he
  have y0 : s.size ≤ maxLen := by unfold maxLen; omega
  go_enter Try.func3, Try.ntmps3
  go_wp2_with (first
    | (go_at_call 5; refine (bytes_yes _ _ _ h).mono ?_; rintro e w' ⟨rfl, rfl⟩))
  refine (all64_any s w h).mono ?_
  rintro e w' ⟨rfl, rfl⟩
  generalize P.allOk s.data.toList = R at *
  cases R <;> (
    go_wp2_with fail
    refine (plain_val w _ y0 v4 (Below.refl _ _)).mono ?_
    rintro e w1 ⟨rfl, hb1⟩
    go_wp2_with fail
    refine (plain_val w _ y0 v4 hb1).mono ?_
    rintro e w3 ⟨rfl, hb3⟩
    go_wp2
    go_ret
    exact ⟨rfl, hb3⟩)

set_option maxHeartbeats 1000000 in
theorem walk_right (s : ByteArray) (w : World) (h : s.size ≤ 1048576) (h1 : 0 < s.size) :
    Calls Try.prog 3 #[.string s, .int .i64 (s.size : Int)] w fun e w' => e = .returned (.bool true) ∧ Below w.heap.size w w' := by
  have c0 : ((s.size : Int) == 0) = false := beq_eq_false_iff_ne.2 (by omega)
  have he : s.toList.isEmpty = false := more_of (by omega)
  have v4 : Hid (P.plain s.data.toList = P.allOk s.data.toList) := plain_more he
  have y0 : s.size ≤ maxLen := by unfold maxLen; omega
  go_enter Try.func3, Try.ntmps3
  go_wp2_with (first
    | (go_at_call 5; refine (bytes_yes _ _ _ h).mono ?_; rintro e w' ⟨rfl, rfl⟩))
  refine (all64_any s w h).mono ?_
  rintro e w' ⟨rfl, rfl⟩
  generalize P.allOk s.data.toList = R at *
  cases R <;> (
    go_wp2_with fail
    refine (plain_val w _ y0 v4 (Below.refl _ _)).mono ?_
    rintro e w1 ⟨rfl, hb1⟩
    go_wp2_with fail
    refine (plain_val w _ y0 v4 hb1).mono ?_
    rintro e w3 ⟨rfl, hb3⟩
    go_wp2
    go_ret
    exact ⟨rfl, hb3⟩)

end Go.Proofs.Qxb6628024a.Split
