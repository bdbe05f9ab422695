/-
  THE WALK OF 'FnIsNameInsertOneByte' (4), with zzBytes (7).
-/
import Derived.Test.Qxb6628563aLeaf
import Derived.WalkLawsBesides
import Derived.Laws.IdiomStrings
import Derived.Deep.QuietTactic
import Derived.BigQuiet
namespace Go.Proofs.Qxb6628563a.Insert
open Go.RowKit Leaf
set_option linter.unusedSimpArgs false
set_option linter.unusedVariables false

theorem bytes_yes (s : ByteArray) (i c : Int) (w : World) (h : s.size ≤ 1048576) :
    Calls Try.prog 7 #[.string s, .int .i64 i, .int .u8 c] w fun e w' => e = .returned (.bool true) ∧ w = w' := by
  go_enter Try.func7, Try.ntmps7
  go_wp2
  go_ret
  exact ⟨rfl, rfl⟩

theorem bytes_no (s : ByteArray) (i c : Int) (w : World) (h : 1048576 < s.size) :
    Calls Try.prog 7 #[.string s, .int .i64 i, .int .u8 c] w fun e w' => e = .returned (.bool false) ∧ w = w' := by
  go_enter Try.func7, Try.ntmps7
  go_wp2
  go_ret
  exact ⟨rfl, rfl⟩

theorem walk_big (s : ByteArray) (i c : Int) (w : World) (h : 1048576 < s.size) :
    Calls Try.prog 4 #[.string s, .int .i64 i, .int .u8 c] w fun e w' => e = .returned (.bool true) ∧ w = w' := by
  go_enter Try.func4, Try.ntmps4
  go_wp2_with (go_at_call 7; refine (bytes_no _ _ _ _ h).mono ?_; rintro e w' ⟨rfl, rfl⟩)
  go_ret
  exact ⟨rfl, rfl⟩

theorem walk_wide (s : ByteArray) (i c : Int) (w : World) (h : s.size ≤ 1048576) (h2 : 65536 < s.size) :
    Calls Try.prog 4 #[.string s, .int .i64 i, .int .u8 c] w fun e w' => e = .returned (.bool true) ∧ w = w' := by
  go_enter Try.func4, Try.ntmps4
  go_wp2_with (go_at_call 7; refine (bytes_yes _ _ _ _ h).mono ?_; rintro e w' ⟨rfl, rfl⟩)
  go_ret
  exact ⟨rfl, rfl⟩

theorem walk_out (s : ByteArray) (i c : Int) (w : World) (h : s.size ≤ 65536) (hi : i < 0 ∨ (s.size : Int) < i) :
    Calls Try.prog 4 #[.string s, .int .i64 i, .int .u8 c] w fun e w' => e = .returned (.bool true) ∧ w = w' := by
  have h' : s.size ≤ 1048576 := by omega
  rcases hi with hi | hi
  · go_enter Try.func4, Try.ntmps4
    go_wp2_with (go_at_call 7; refine (bytes_yes _ _ _ _ h').mono ?_; rintro e w' ⟨rfl, rfl⟩)
    go_ret
    exact ⟨rfl, rfl⟩
  · have hn : ¬ i < 0 := by omega
    go_enter Try.func4, Try.ntmps4
    go_wp2_with (go_at_call 7; refine (bytes_yes _ _ _ _ h').mono ?_; rintro e w' ⟨rfl, rfl⟩)
    go_ret
    exact ⟨rfl, rfl⟩

theorem one_string (b : UInt8) (z : Int) (hz : z = (b.toNat : Int)) (W : World) :
    (convert 24 9 (.slice (some ⟨W.heap.size, 0, none⟩) 1 1)).run Try.prog (W.alloc (.cells #[.int .u8 z] 5)) = .ok (.string ⟨#[b]⟩) (W.alloc (.cells #[.int .u8 z] 5)) := by
  subst hz
  refine run_convert_bytes_back _ 24 9 5 ⟨W.heap.size, 0, none⟩ 1 [b] Try.underlying24 Try.underlying5 Try.underlying9 (fun j hj => ?_)
  match j, hj with
  | 0, _ => simp [Addr.add]

theorem put_data (s : ByteArray) (i : Nat) (b : UInt8) : ((s.extract 0 i ++ ByteArray.mk #[b]) ++ s.extract i s.size).data.toList = s.data.toList.take i ++ [b] ++ s.data.toList.drop i := by
  have e1 := Lib.extract_data s 0 i
  have e2 := Lib.extract_data s i s.size
  rw [List.take_of_length_le (by simp)] at e2
  simp only [ByteArray.data_append, Array.toList_append, e1, e2]
  simp

theorem val_front (s : ByteArray) (i : Nat) (b : UInt8) (hi : i = 0) : P.isName ((s.extract 0 i ++ ByteArray.mk #[b]) ++ s.extract i s.size).data.toList = (P.headB b && P.allT s.data.toList) := by
  rw [put_data]
  subst hi
  show P.isName ([b] ++ s.data.toList) = _
  rw [P.put_front, P.isName_one, P.isName_a]

theorem val_late (s : ByteArray) (i : Nat) (b : UInt8) (h0 : 0 < i) (h : i ≤ s.size) : P.isName ((s.extract 0 i ++ ByteArray.mk #[b]) ++ s.extract i s.size).data.toList = (P.isName s.data.toList && P.tailB b) := by
  rw [put_data, P.put_late _ i b h0 (by simpa using h)]

theorem a_data (s : ByteArray) : P.isName (ByteArray.mk #[97] ++ s).data.toList = P.allT s.data.toList := by
  have e : (ByteArray.mk #[97] ++ s).data.toList = 97 :: s.data.toList := by simp
  rw [e, P.isName_a]

theorem a_size (s : ByteArray) (h : s.size ≤ 65536) : (ByteArray.mk #[97] ++ s).size ≤ maxLen := by
  have e : (ByteArray.mk #[97] ++ s).size = 1 + s.size := by simp [ByteArray.size_append]; rfl
  rw [e]; unfold maxLen; omega

theorem put_size (s : ByteArray) (i : Nat) (b : UInt8) (h : s.size ≤ 65536) : ((s.extract 0 i ++ ByteArray.mk #[b]) ++ s.extract i s.size).size ≤ maxLen := by
  have e : ((s.extract 0 i ++ ByteArray.mk #[b]) ++ s.extract i s.size).size = (s.extract 0 i).size + 1 + (s.extract i s.size).size := by simp [ByteArray.size_append]; rfl
  rw [e]; simp [ByteArray.size_extract]; unfold maxLen; omega

theorem val_i64 {a b : Int} (h : a = b) : Value.int .i64 a = .int .i64 b := by rw [h]

theorem one_size (b : UInt8) : (ByteArray.mk #[b]).size ≤ maxLen := by show 1 ≤ maxLen; decide

theorem two_size (b : UInt8) : (ByteArray.mk #[97] ++ ByteArray.mk #[b]).size ≤ maxLen := a_size _ (by show 1 ≤ 65536; decide)

/-- The three ways of a byte. -/
theorem ways (c : Int) : (P.headI c = true ∧ P.tailI c = true) ∨ (P.headI c = false ∧ P.tailI c = true) ∨ (P.headI c = false ∧ P.tailI c = false) := by
  cases h : P.headI c with
  | true => exact .inl ⟨rfl, P.headI_tailI c h⟩
  | false =>
    cases h2 : P.tailI c with
    | true => exact .inr (.inl ⟨rfl, rfl⟩)
    | false => exact .inr (.inr ⟨rfl, rfl⟩)

set_option maxHeartbeats 4000000 in
set_option maxRecDepth 100000 in
theorem walk_front (s : ByteArray) (i : Nat) (b : UInt8) (w : World) (h : s.size ≤ 65536) (hi : i ≤ s.size) (hi0 : i = 0) :
    Calls Try.prog 4 #[.string s, .int .i64 i, .int .u8 (b.toNat : Int)] w fun e w' => e = .returned (.bool true) ∧ Below w.heap.size w w' := by
  have c0 : ((i : Int) == 0) = true := beq_iff_eq.2 (by omega)
  have VT : Hid (P.isName ((s.extract 0 i ++ ByteArray.mk #[b]) ++ s.extract i s.size).data.toList = (P.headB b && P.allT s.data.toList)) := val_front s i b hi0
  have VC : Hid (P.isName (ByteArray.mk #[b]).data.toList = P.headB b) := P.isName_one b
  have VA : Hid (P.isName (ByteArray.mk #[97] ++ s).data.toList = P.allT s.data.toList) := a_data s
  clear hi0
  have h' : s.size ≤ 1048576 := by omega
  have hos := one_string b _ rfl
  have d1 : decide (65536 < (s.size : Int)) = false := decide_eq_false (by omega)
  have d2 : decide ((i : Int) < 0) = false := decide_eq_false (by omega)
  have d3 : decide (s.size < i) = false := decide_eq_false (by omega)
  have x1 : (s.extract 0 i).size ≤ 65536 := by simp [ByteArray.size_extract]; omega
  have x2 : (s.extract i s.size).size ≤ 65536 := by simp [ByteArray.size_extract]; omega
  go_enter Try.func4, Try.ntmps4
  go_wp2_with (go_at_call 7; refine (bytes_yes _ _ _ _ h').mono ?_; rintro e w' ⟨rfl, rfl⟩)
  go_quiet (fail)
  have hb0 : Below w.heap.size w ((w.alloc (.cells #[.int .u8 (b.toNat : Int)] 5)).drewN nq) :=
    below_drewN ((Below.refl _ w).alloc (Nat.le_refl _) _) nq
  generalize P.allT s.data.toList = al at *
  generalize P.headB b = hb at *
  cases hb with
  | true =>
    have VT' : Hid (P.isName ((s.extract 0 i ++ ByteArray.mk #[b]) ++ s.extract i s.size).data.toList = al) := VT
    go_wp2_with fail
    refine (name_val w true (one_size b) VC hb0).mono ?_
    rintro e w1 ⟨rfl, hb1⟩
    go_wp2_with fail
    refine (name_val w al (a_size s h) VA hb1).mono ?_
    rintro e w2 ⟨rfl, hb2⟩
    go_wp2_with fail
    refine (name_val w al (put_size s i b h) VT' hb2).mono ?_
    rintro e w3 ⟨rfl, hb3⟩
    clear hb0 hb1 hb2 hos VT VC VA VT'
    go_wp2
    go_loopw [10, 11, 12] (fun hh tt i wr => ∃ k : Nat, k ≤ 256 ∧ i = .int .i64 k ∧ hh = .int .i64 (P.cntH k) ∧ tt = .int .i64 (P.cntT k) ∧ Below w.heap.size w wr) (fun _ _ i _ => 256 - (intOf i).toNat)
    case atStart => exact ⟨0, by omega, rfl, rfl, rfl, hb3⟩
    case round =>
      obtain ⟨k, hk, rfl, rfl, rfl, hbr⟩ := hrel
      clear hb3
      by_cases hlt : k < 256
      · obtain ⟨bk, hbk⟩ := P.byte_of (k : Int) (by omega) (by omega)
        have ok := one_string bk (k : Int) hbk
        have VH : Hid (P.isName (ByteArray.mk #[bk]).data.toList = P.headI (k : Int)) := by rw [Hid, hbk]; exact P.isName_one bk
        have VT : Hid (P.isName (ByteArray.mk #[97] ++ ByteArray.mk #[bk]).data.toList = P.tailI (k : Int)) := by rw [Hid, hbk, a_data]; exact P.allT_one bk
        have SH : Hid (P.cntH (k + 1) = P.cntH k + if P.headI (k : Int) = true then 1 else 0) := P.cntH_succ k
        have ST : Hid (P.cntT (k + 1) = P.cntT k + if P.tailI (k : Int) = true then 1 else 0) := P.cntT_succ k
        clear hbk
        have bH := P.cntH_le k
        have bT := P.cntT_le k
        rcases ways (k : Int) with ⟨hv, tv⟩ | ⟨hv, tv⟩ | ⟨hv, tv⟩
        all_goals
          rw [hv] at VH SH
          rw [tv] at VT ST
          clear hv tv
          go_wp2_with fail
          refine (name_val w _ (one_size bk) VH (hbr.alloc hbr.size _)).mono ?_
          rintro e w4 ⟨rfl, hb4⟩
          go_wp2_with fail
          refine (name_val w _ (two_size bk) VT hb4).mono ?_
          rintro e w5 ⟨rfl, hb5⟩
          go_wp2
          exact ⟨⟨k + 1, by omega, by go_num, val_i64 (by have := SH.out; simp at this; omega), val_i64 (by have := ST.out; simp at this; omega), hb5⟩, by simp [intOf]; omega⟩
      · obtain rfl : k = 256 := by omega
        have eH : (P.cntH 256 : Int) = 26 := by rw [P.cntH_all]; rfl
        have eT : (P.cntT 256 : Int) = 37 := by rw [P.cntT_all]; rfl
        rw [eH, eT]
        go_wp2
        go_ret
        exact ⟨rfl, hbr⟩
  | false =>
    have VT' : Hid (P.isName ((s.extract 0 i ++ ByteArray.mk #[b]) ++ s.extract i s.size).data.toList = false) := VT
    go_wp2_with fail
    refine (name_val w false (one_size b) VC hb0).mono ?_
    rintro e w1 ⟨rfl, hb1⟩
    go_wp2_with fail
    refine (name_val w false (put_size s i b h) VT' hb1).mono ?_
    rintro e w3 ⟨rfl, hb3⟩
    clear hb0 hb1 hos VT VC VA VT'
    go_wp2
    go_loopw [10, 11, 12] (fun hh tt i wr => ∃ k : Nat, k ≤ 256 ∧ i = .int .i64 k ∧ hh = .int .i64 (P.cntH k) ∧ tt = .int .i64 (P.cntT k) ∧ Below w.heap.size w wr) (fun _ _ i _ => 256 - (intOf i).toNat)
    case atStart => exact ⟨0, by omega, rfl, rfl, rfl, hb3⟩
    case round =>
      obtain ⟨k, hk, rfl, rfl, rfl, hbr⟩ := hrel
      clear hb3
      by_cases hlt : k < 256
      · obtain ⟨bk, hbk⟩ := P.byte_of (k : Int) (by omega) (by omega)
        have ok := one_string bk (k : Int) hbk
        have VH : Hid (P.isName (ByteArray.mk #[bk]).data.toList = P.headI (k : Int)) := by rw [Hid, hbk]; exact P.isName_one bk
        have VT : Hid (P.isName (ByteArray.mk #[97] ++ ByteArray.mk #[bk]).data.toList = P.tailI (k : Int)) := by rw [Hid, hbk, a_data]; exact P.allT_one bk
        have SH : Hid (P.cntH (k + 1) = P.cntH k + if P.headI (k : Int) = true then 1 else 0) := P.cntH_succ k
        have ST : Hid (P.cntT (k + 1) = P.cntT k + if P.tailI (k : Int) = true then 1 else 0) := P.cntT_succ k
        clear hbk
        have bH := P.cntH_le k
        have bT := P.cntT_le k
        rcases ways (k : Int) with ⟨hv, tv⟩ | ⟨hv, tv⟩ | ⟨hv, tv⟩
        all_goals
          rw [hv] at VH SH
          rw [tv] at VT ST
          clear hv tv
          go_wp2_with fail
          refine (name_val w _ (one_size bk) VH (hbr.alloc hbr.size _)).mono ?_
          rintro e w4 ⟨rfl, hb4⟩
          go_wp2_with fail
          refine (name_val w _ (two_size bk) VT hb4).mono ?_
          rintro e w5 ⟨rfl, hb5⟩
          go_wp2
          exact ⟨⟨k + 1, by omega, by go_num, val_i64 (by have := SH.out; simp at this; omega), val_i64 (by have := ST.out; simp at this; omega), hb5⟩, by simp [intOf]; omega⟩
      · obtain rfl : k = 256 := by omega
        have eH : (P.cntH 256 : Int) = 26 := by rw [P.cntH_all]; rfl
        have eT : (P.cntT 256 : Int) = 37 := by rw [P.cntT_all]; rfl
        rw [eH, eT]
        go_wp2
        go_ret
        exact ⟨rfl, hbr⟩

set_option maxHeartbeats 4000000 in
set_option maxRecDepth 100000 in
theorem walk_late (s : ByteArray) (i : Nat) (b : UInt8) (w : World) (h : s.size ≤ 65536) (hi : i ≤ s.size) (hi0 : 0 < i) :
    Calls Try.prog 4 #[.string s, .int .i64 i, .int .u8 (b.toNat : Int)] w fun e w' => e = .returned (.bool true) ∧ Below w.heap.size w w' := by
  have c0 : ((i : Int) == 0) = false := beq_eq_false_iff_ne.2 (by omega)
  have y : s.size ≤ maxLen := by unfold maxLen; omega
  have VT : Hid (P.isName ((s.extract 0 i ++ ByteArray.mk #[b]) ++ s.extract i s.size).data.toList = (P.isName s.data.toList && P.tailB b)) := val_late s i b hi0 hi
  have VS : Hid (P.isName s.data.toList = P.isName s.data.toList) := rfl
  have VA : Hid (P.isName (ByteArray.mk #[97] ++ ByteArray.mk #[b]).data.toList = P.tailB b) := by rw [Hid, a_data]; exact P.allT_one b
  obtain ⟨nm, enm⟩ : ∃ nm, P.isName s.data.toList = nm := ⟨_, rfl⟩
  have VN : Hid (P.isName s.data.toList = nm) := enm
  rw [enm] at VT
  clear enm VS
  have h' : s.size ≤ 1048576 := by omega
  have hos := one_string b _ rfl
  have d1 : decide (65536 < (s.size : Int)) = false := decide_eq_false (by omega)
  have d2 : decide ((i : Int) < 0) = false := decide_eq_false (by omega)
  have d3 : decide (s.size < i) = false := decide_eq_false (by omega)
  have x1 : (s.extract 0 i).size ≤ 65536 := by simp [ByteArray.size_extract]; omega
  have x2 : (s.extract i s.size).size ≤ 65536 := by simp [ByteArray.size_extract]; omega
  go_enter Try.func4, Try.ntmps4
  go_wp2_with (go_at_call 7; refine (bytes_yes _ _ _ _ h').mono ?_; rintro e w' ⟨rfl, rfl⟩)
  go_quiet (fail)
  have hb0 : Below w.heap.size w ((w.alloc (.cells #[.int .u8 (b.toNat : Int)] 5)).drewN nq) :=
    below_drewN ((Below.refl _ w).alloc (Nat.le_refl _) _) nq
  generalize P.tailB b = tb at *
  cases nm with
  | true =>
    have VT' : Hid (P.isName ((s.extract 0 i ++ ByteArray.mk #[b]) ++ s.extract i s.size).data.toList = tb) := VT
    go_wp2_with fail
    refine (name_val w true y VN hb0).mono ?_
    rintro e w1 ⟨rfl, hb1⟩
    go_wp2_with fail
    refine (name_val w tb (two_size b) VA hb1).mono ?_
    rintro e w2 ⟨rfl, hb2⟩
    go_wp2_with fail
    refine (name_val w tb (put_size s i b h) VT' hb2).mono ?_
    rintro e w3 ⟨rfl, hb3⟩
    clear hb0 hb1 hb2 hos VT VN VA VT'
    go_wp2
    go_loopw [10, 11, 12] (fun hh tt i wr => ∃ k : Nat, k ≤ 256 ∧ i = .int .i64 k ∧ hh = .int .i64 (P.cntH k) ∧ tt = .int .i64 (P.cntT k) ∧ Below w.heap.size w wr) (fun _ _ i _ => 256 - (intOf i).toNat)
    case atStart => exact ⟨0, by omega, rfl, rfl, rfl, hb3⟩
    case round =>
      obtain ⟨k, hk, rfl, rfl, rfl, hbr⟩ := hrel
      clear hb3
      by_cases hlt : k < 256
      · obtain ⟨bk, hbk⟩ := P.byte_of (k : Int) (by omega) (by omega)
        have ok := one_string bk (k : Int) hbk
        have VH : Hid (P.isName (ByteArray.mk #[bk]).data.toList = P.headI (k : Int)) := by rw [Hid, hbk]; exact P.isName_one bk
        have VT : Hid (P.isName (ByteArray.mk #[97] ++ ByteArray.mk #[bk]).data.toList = P.tailI (k : Int)) := by rw [Hid, hbk, a_data]; exact P.allT_one bk
        have SH : Hid (P.cntH (k + 1) = P.cntH k + if P.headI (k : Int) = true then 1 else 0) := P.cntH_succ k
        have ST : Hid (P.cntT (k + 1) = P.cntT k + if P.tailI (k : Int) = true then 1 else 0) := P.cntT_succ k
        clear hbk
        have bH := P.cntH_le k
        have bT := P.cntT_le k
        rcases ways (k : Int) with ⟨hv, tv⟩ | ⟨hv, tv⟩ | ⟨hv, tv⟩
        all_goals
          rw [hv] at VH SH
          rw [tv] at VT ST
          clear hv tv
          go_wp2_with fail
          refine (name_val w _ (one_size bk) VH (hbr.alloc hbr.size _)).mono ?_
          rintro e w4 ⟨rfl, hb4⟩
          go_wp2_with fail
          refine (name_val w _ (two_size bk) VT hb4).mono ?_
          rintro e w5 ⟨rfl, hb5⟩
          go_wp2
          exact ⟨⟨k + 1, by omega, by go_num, val_i64 (by have := SH.out; simp at this; omega), val_i64 (by have := ST.out; simp at this; omega), hb5⟩, by simp [intOf]; omega⟩
      · obtain rfl : k = 256 := by omega
        have eH : (P.cntH 256 : Int) = 26 := by rw [P.cntH_all]; rfl
        have eT : (P.cntT 256 : Int) = 37 := by rw [P.cntT_all]; rfl
        rw [eH, eT]
        go_wp2
        go_ret
        exact ⟨rfl, hbr⟩
  | false =>
    have VT' : Hid (P.isName ((s.extract 0 i ++ ByteArray.mk #[b]) ++ s.extract i s.size).data.toList = false) := VT
    go_wp2_with fail
    refine (name_val w false y VN hb0).mono ?_
    rintro e w1 ⟨rfl, hb1⟩
    go_wp2_with fail
    refine (name_val w false (put_size s i b h) VT' hb1).mono ?_
    rintro e w3 ⟨rfl, hb3⟩
    clear hb0 hb1 hos VT VN VA VT'
    go_wp2
    go_loopw [10, 11, 12] (fun hh tt i wr => ∃ k : Nat, k ≤ 256 ∧ i = .int .i64 k ∧ hh = .int .i64 (P.cntH k) ∧ tt = .int .i64 (P.cntT k) ∧ Below w.heap.size w wr) (fun _ _ i _ => 256 - (intOf i).toNat)
    case atStart => exact ⟨0, by omega, rfl, rfl, rfl, hb3⟩
    case round =>
      obtain ⟨k, hk, rfl, rfl, rfl, hbr⟩ := hrel
      clear hb3
      by_cases hlt : k < 256
      · obtain ⟨bk, hbk⟩ := P.byte_of (k : Int) (by omega) (by omega)
        have ok := one_string bk (k : Int) hbk
        have VH : Hid (P.isName (ByteArray.mk #[bk]).data.toList = P.headI (k : Int)) := by rw [Hid, hbk]; exact P.isName_one bk
        have VT : Hid (P.isName (ByteArray.mk #[97] ++ ByteArray.mk #[bk]).data.toList = P.tailI (k : Int)) := by rw [Hid, hbk, a_data]; exact P.allT_one bk
        have SH : Hid (P.cntH (k + 1) = P.cntH k + if P.headI (k : Int) = true then 1 else 0) := P.cntH_succ k
        have ST : Hid (P.cntT (k + 1) = P.cntT k + if P.tailI (k : Int) = true then 1 else 0) := P.cntT_succ k
        clear hbk
        have bH := P.cntH_le k
        have bT := P.cntT_le k
        rcases ways (k : Int) with ⟨hv, tv⟩ | ⟨hv, tv⟩ | ⟨hv, tv⟩
        all_goals
          rw [hv] at VH SH
          rw [tv] at VT ST
          clear hv tv
          go_wp2_with fail
          refine (name_val w _ (one_size bk) VH (hbr.alloc hbr.size _)).mono ?_
          rintro e w4 ⟨rfl, hb4⟩
          go_wp2_with fail
          refine (name_val w _ (two_size bk) VT hb4).mono ?_
          rintro e w5 ⟨rfl, hb5⟩
          go_wp2
          exact ⟨⟨k + 1, by omega, by go_num, val_i64 (by have := SH.out; simp at this; omega), val_i64 (by have := ST.out; simp at this; omega), hb5⟩, by simp [intOf]; omega⟩
      · obtain rfl : k = 256 := by omega
        have eH : (P.cntH 256 : Int) = 26 := by rw [P.cntH_all]; rfl
        have eT : (P.cntT 256 : Int) = 37 := by rw [P.cntT_all]; rfl
        rw [eH, eT]
        go_wp2
        go_ret
        exact ⟨rfl, hbr⟩
end Go.Proofs.Qxb6628563a.Insert
