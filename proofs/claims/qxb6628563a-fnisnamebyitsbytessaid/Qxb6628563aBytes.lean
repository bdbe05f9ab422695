/-
  THE WALK OF 'FnIsNameByItsBytes' (3), with zzBytes (5).
-/
import Derived.Test.Qxb6628563aLeaf
import Derived.WalkLawsBesides
namespace Go.Proofs.Qxb6628563a.Bytes
open Go.RowKit Leaf
set_option linter.unusedSimpArgs false
set_option linter.unusedVariables false

theorem bytes_yes (s : ByteArray) (w : World) (h : s.size ≤ 1048576) :
    Calls Try.prog 5 #[.string s] w fun e w' => e = .returned (.bool true) ∧ w = w' := by
  go_enter Try.func5, Try.ntmps5
  go_wp2
  go_ret
  exact ⟨rfl, rfl⟩

theorem bytes_no (s : ByteArray) (w : World) (h : 1048576 < s.size) :
    Calls Try.prog 5 #[.string s] w fun e w' => e = .returned (.bool false) ∧ w = w' := by
  go_enter Try.func5, Try.ntmps5
  go_wp2
  go_ret
  exact ⟨rfl, rfl⟩

theorem walk_big (s : ByteArray) (w : World) (h : 1048576 < s.size) :
    Calls Try.prog 3 #[.string s] w fun e w' => e = .returned (.bool true) ∧ w = w' := by
  go_enter Try.func3, Try.ntmps3
  go_wp2_with (go_at_call 5; refine (bytes_no _ _ h).mono ?_; rintro e w' ⟨rfl, rfl⟩)
  go_ret
  exact ⟨rfl, rfl⟩

theorem walk_wide (s : ByteArray) (w : World) (h : s.size ≤ 1048576) (h2 : 65536 < s.size) :
    Calls Try.prog 3 #[.string s] w fun e w' => e = .returned (.bool true) ∧ w = w' := by
  go_enter Try.func3, Try.ntmps3
  go_wp2_with (go_at_call 5; refine (bytes_yes _ _ h).mono ?_; rintro e w' ⟨rfl, rfl⟩)
  go_ret
  exact ⟨rfl, rfl⟩

theorem walk_empty (s : ByteArray) (w : World) (h : s.size ≤ 65536) (he : s.toList.isEmpty = true) :
    Calls Try.prog 3 #[.string s] w fun e w' => e = .returned (.bool true) ∧ Below w.heap.size w w' := by
  have v : Hid (P.isName s.data.toList = false) := name_empty he
  have y : s.size ≤ maxLen := by unfold maxLen; omega
  have h' : s.size ≤ 1048576 := by omega
  go_enter Try.func3, Try.ntmps3
  go_wp2_with (first
    | (go_at_call 5; refine (bytes_yes _ _ h').mono ?_; rintro e w' ⟨rfl, rfl⟩)
    | (go_at_call 6; refine (name_val w false y v (Below.refl _ _)).mono ?_; rintro e w' ⟨rfl, hb⟩))
  go_ret
  exact ⟨rfl, hb⟩

theorem one_size (s : ByteArray) (k : Nat) : (s.extract k (k + 1)).size ≤ maxLen := by
  simp [ByteArray.size_extract]; unfold maxLen; omega

theorem first_val (s : ByteArray) (h : 0 < s.size) : P.isName (s.extract 0 1).data.toList = P.headB s[0] := by
  rw [Lib.extract_data, cut_one s h, ← P.isName_one]
  rfl

theorem at_getD (s : ByteArray) (k : Nat) (h : k < s.size) : s[k] = s.data.toList.getD k 0 := by
  have h' : k < s.data.toList.length := by simpa using h
  rw [P.getD_at _ _ h']
  rfl

theorem one_data (s : ByteArray) (k : Nat) (h : k < s.size) : (s.extract k (k + 1)).data.toList = [s[k]] := by
  have h' : k < s.data.toList.length := by simpa using h
  rw [Lib.extract_data, List.drop_eq_getElem_cons h', show k + 1 - k = 1 by omega, List.take_succ_cons, List.take_zero]
  rfl

theorem one_val (s : ByteArray) (k : Nat) (h : k < s.size) : P.isName (s.extract k (k + 1)).data.toList = P.headB s[k] := by
  rw [one_data s k h, P.isName_one]

theorem a_val (s : ByteArray) (k : Nat) (h : k < s.size) : P.isName (ByteArray.mk #[97] ++ s.extract k (k + 1)).data.toList = P.tailB s[k] := by
  have e : (ByteArray.mk #[97] ++ s.extract k (k + 1)).data.toList = 97 :: (s.extract k (k + 1)).data.toList := by simp
  rw [e, one_data s k h, P.isName_a, P.allT_one]

theorem a_size (s : ByteArray) (k : Nat) : (ByteArray.mk #[97] ++ s.extract k (k + 1)).size ≤ maxLen := by
  have e : (ByteArray.mk #[97] ++ s.extract k (k + 1)).size = 1 + (s.extract k (k + 1)).size := by simp [ByteArray.size_append]; rfl
  rw [e]; simp [ByteArray.size_extract]; unfold maxLen; omega

theorem step (s : ByteArray) (k : Nat) (h1 : 1 ≤ k) (h : k < s.size) : P.isName (s.data.toList.take (k + 1)) = (P.isName (s.data.toList.take k) && P.tailB s[k]) := by
  rw [P.isName_step _ k h1 (by simpa using h), ← at_getD s k h]

/-- The five ways of a byte. -/
theorem ways (c : Int) : (97 ≤ c ∧ c ≤ 122 ∧ P.headI c = true ∧ P.tailI c = true ∧ (c == 95) = false) ∨ (48 ≤ c ∧ c ≤ 57 ∧ P.headI c = false ∧ P.tailI c = true ∧ (c == 95) = false) ∨ (58 ≤ c ∧ c ≤ 96 ∧ P.headI c = false ∧ P.tailI c = true ∧ (c == 95) = true) ∨
    (c ≤ 47 ∧ c ≤ 96 ∧ P.headI c = false ∧ P.tailI c = false ∧ (c == 95) = false) ∨ (58 ≤ c ∧ 58 ≤ c ∧ P.headI c = false ∧ P.tailI c = false ∧ (c == 95) = false) := by
  by_cases a : 97 ≤ c ∧ c ≤ 122
  · exact .inl ⟨a.1, a.2, P.headI_t a, P.tailI_t (.inl a), beq_eq_false_iff_ne.2 (by omega)⟩
  · by_cases b : 48 ≤ c ∧ c ≤ 57
    · exact .inr (.inl ⟨b.1, b.2, P.headI_f a, P.tailI_t (.inr (.inl b)), beq_eq_false_iff_ne.2 (by omega)⟩)
    · by_cases d : c = 95
      · exact .inr (.inr (.inl ⟨by omega, by omega, P.headI_f a, P.tailI_t (.inr (.inr d)), beq_iff_eq.2 d⟩))
      · by_cases e : c ≤ 47
        · exact .inr (.inr (.inr (.inl ⟨e, by omega, P.headI_f a, P.tailI_f (by omega), beq_eq_false_iff_ne.2 d⟩)))
        · exact .inr (.inr (.inr (.inr ⟨by omega, by omega, P.headI_f a, P.tailI_f (by omega), beq_eq_false_iff_ne.2 d⟩)))

set_option maxHeartbeats 2000000 in
theorem walk_more (s : ByteArray) (w : World) (h : s.size ≤ 65536) (hp : 0 < s.size) (he : s.toList.isEmpty = false) :
    Calls Try.prog 3 #[.string s] w fun e w' => e = .returned (.bool true) ∧ Below w.heap.size w w' := by
  have h' : s.size ≤ 1048576 := by omega
  have y : s.size ≤ maxLen := by unfold maxLen; omega
  have d1 : decide (65536 < (s.size : Int)) = false := decide_eq_false (by omega)
  go_enter Try.func3, Try.ntmps3
  go_wp2_with (first
    | (go_at_call 5; refine (bytes_yes _ _ h').mono ?_; rintro e w' ⟨rfl, rfl⟩))
  refine (name_val w (P.headB s[0]) (one_size s 0) (first_val s hp) (Below.refl _ _)).mono ?_
  rintro e w1 ⟨rfl, hb1⟩
  obtain ⟨hd, ehd⟩ : ∃ hd, P.headB s[0] = hd := ⟨_, rfl⟩
  rw [ehd]
  have EH : Hid (P.headB s[0] = hd) := ehd
  clear ehd
  have key : (hd = true ∧ decide ((97 : Int) ≤ (s[0].toNat : Int)) = true ∧ decide ((s[0].toNat : Int) ≤ 122) = true) ∨ (hd = false ∧ decide ((97 : Int) ≤ (s[0].toNat : Int)) = false ∧ True) ∨ (hd = false ∧ decide ((97 : Int) ≤ (s[0].toNat : Int)) = true ∧ decide ((s[0].toNat : Int) ≤ 122) = false) := by
    have e := EH.out
    unfold P.headB at e
    by_cases c : 97 ≤ (s[0].toNat : Int) ∧ (s[0].toNat : Int) ≤ 122
    · rw [P.headI_t c] at e; exact .inl ⟨e.symm, decide_eq_true c.1, decide_eq_true c.2⟩
    · rw [P.headI_f c] at e
      by_cases c2 : (s[0].toNat : Int) < 97
      · exact .inr (.inl ⟨e.symm, decide_eq_false (by omega), trivial⟩)
      · exact .inr (.inr ⟨e.symm, decide_eq_true (by omega), decide_eq_false (by omega)⟩)
  have start : Hid (P.isName (s.data.toList.take 1) = hd) := by
    rw [Hid, ← EH.out, ← first_val s hp, Lib.extract_data]; rfl
  clear EH
  rcases key with ⟨rfl, h97, h122⟩ | ⟨rfl, h97, h122⟩ | ⟨rfl, h97, h122⟩
  all_goals
    go_wp2
    go_loopw [4, 5] (fun a i wr => ∃ k : Nat, 1 ≤ k ∧ k ≤ s.size ∧ i = .int .i64 k ∧ a = .bool (P.isName (s.data.toList.take k)) ∧ Below w.heap.size w wr) (fun _ i _ => s.size - (intOf i).toNat)
    case atStart => exact ⟨1, by omega, by omega, rfl, by rw [start.out], hb1⟩
    case round =>
      obtain ⟨k, hk1, hk, rfl, rfl, hbr⟩ := hrel
      clear start hb1
      by_cases hlt : k < s.size
      · have st : Hid (P.isName (s.data.toList.take (k + 1)) = (P.isName (s.data.toList.take k) && P.tailB s[k])) := step s k hk1 hlt
        generalize P.isName (s.data.toList.take k) = acc at *
        rcases ways (s[k].toNat : Int) with ⟨c1, c2, hv, tv, uv⟩ | ⟨c1, c2, hv, tv, uv⟩ | ⟨c1, c2, hv, tv, uv⟩ | ⟨c1, c2, hv, tv, uv⟩ | ⟨c1, c2, hv, tv, uv⟩
        all_goals
          have VH : Hid (P.isName (s.extract k (k + 1)).data.toList = P.headI (s[k].toNat : Int)) := one_val s k hlt
          have VT : Hid (P.isName (ByteArray.mk #[97] ++ s.extract k (k + 1)).data.toList = P.tailI (s[k].toNat : Int)) := a_val s k hlt
          rw [hv] at VH
          rw [tv] at VT
          have TV : Hid (P.tailI (s[k].toNat : Int) = _) := tv
          clear hv tv
          go_wp2_with fail
          refine (name_val w _ (a_size s k) VT hbr).mono ?_
          rintro e w2 ⟨rfl, hb2⟩
          go_wp2_with fail
          refine (name_val w _ (one_size s k) VH hb2).mono ?_
          rintro e w3 ⟨rfl, hb3⟩
          go_wp2
          all_goals
            refine ⟨⟨k + 1, by omega, by omega, by go_num, ?_, hb3⟩, by simp [intOf]; omega⟩
            rw [st.out, P.tailB, TV.out]
            simp
      · have ek : s.data.toList.take k = s.data.toList := List.take_of_length_le (by simp; omega)
        rw [ek]
        go_wp2_with fail
        refine (name_val w _ y (show Hid (_ = _) from rfl) hbr).mono ?_
        rintro e w2 ⟨rfl, hb2⟩
        go_wp2
        go_ret
        exact ⟨rfl, hb2⟩
end Go.Proofs.Qxb6628563a.Bytes
