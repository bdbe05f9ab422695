/-
  THE WALK THAT BOTH LAWS SHARE: IsName (6).
-/
import Derived.Test.Qxb6628563aRows
import Derived.Test.Qxb6628563aPlain
import Derived.WalkKit
import Derived.WalkSpells
import Derived.Below
import Derived.Lib.ConvBytes
import Derived.Lib.Strings
namespace Go.Proofs.Qxb6628563a.Leaf
open Go.RowKit
set_option linter.unusedSimpArgs false
set_option linter.unusedVariables false

theorem below_bytes (w : World) (s : ByteArray) : Below w.heap.size w (Lib.bytesWorld w 5 s) :=
  ⟨rfl, rfl, rfl, by rw [Lib.bytesWorld_size]; omega, fun k hk => Lib.bytesWorld_at_old w 5 s k hk⟩

theorem ret_bool {a b : Bool} (h : a = b) : Ending.returned (.bool a) = .returned (.bool b) := by rw [h]

theorem name_empty {s : ByteArray} (h : s.toList.isEmpty = true) : P.isName s.data.toList = false := by
  rw [Lib.toList_data, List.isEmpty_iff] at h; rw [h]; rfl

theorem more_of {s : ByteArray} (h : s.toList.isEmpty = false) : 0 < s.size := by
  rw [Lib.toList_data] at h
  have h2 : s.data.toList.length = s.size := by simp
  cases e : s.data.toList with
  | nil => rw [e] at h; cases h
  | cons a l => rw [e] at h2; simp at h2; omega

theorem cut_one (s : ByteArray) (h : 0 < s.size) : s.data.toList = s[0] :: (s.extract 1 s.size).data.toList := by
  rw [Lib.extract_data, List.take_of_length_le (by simp)]
  have h' : 0 < s.data.toList.length := by simpa using h
  have h2 := List.drop_eq_getElem_cons h'
  rw [List.drop_zero] at h2
  exact h2

theorem name_more (s : ByteArray) (h : 0 < s.size) : P.isName s.data.toList = (P.headB s[0] && P.allT (s.extract 1 s.size).data.toList) := by
  rw [cut_one s h]; rfl

set_option maxHeartbeats 1000000 in
theorem name_any (s : ByteArray) (w : World) (hs : s.size ≤ maxLen) :
    Calls Try.prog 6 #[.string s] w fun e w' => e = .returned (.bool (P.isName s.data.toList)) ∧ Below w.heap.size w w' := by
  unfold maxLen at hs
  cases he : s.toList.isEmpty with
  | true =>
    go_enter Try.func6, Try.ntmps6
    go_wp2
    go_ret
    exact ⟨ret_bool (name_empty he).symm, Below.refl _ _⟩
  | false =>
    have hp := more_of he
    have hn := name_more s hp
    have HN : Hid (P.isName s.data.toList = (P.headB s[0] && P.allT (s.extract 1 s.size).data.toList)) := hn
    clear hn
    by_cases hh : 97 ≤ (s[0].toNat : Int) ∧ (s[0].toNat : Int) ≤ 122
    · have hcv := Lib.run_convert_string_bytes (P := Try.prog) w 9 24 5 (s.extract 1 s.size) Try.underlying9 Try.underlying24 Try.underlying5
      have hz : (s.extract 1 s.size).size = s.size - 1 := by simp [ByteArray.size_extract]
      obtain ⟨h97, h122⟩ := hh
      go_enter Try.func6, Try.ntmps6
      go_wp2
      go_loop [21] (fun i => ∃ k : Nat, k ≤ s.size - 1 ∧ i = .int .i64 k ∧ Hid (P.allT ((s.extract 1 s.size).data.toList.take k) = true)) (fun i => s.size - 1 - (intOf i).toNat)
      case atStart => exact ⟨0, Nat.zero_le _, rfl, rfl⟩
      case round =>
        obtain ⟨k, hk, rfl, HA⟩ := hrel
        by_cases hlt : k < s.size - 1
        · have hc := Lib.bytesWorld_cell w 5 (s.extract 1 s.size) k (by omega)
          obtain ⟨c, hce⟩ : ∃ c : Int, c = (((s.extract 1 s.size).data.toList.getD k 0).toNat : Int) := ⟨_, rfl⟩
          have hc0 : 0 ≤ c := by omega
          have hc1 : c ≤ 255 := by have := ((s.extract 1 s.size).data.toList.getD k 0).toNat_lt; omega
          rw [← hce] at hc
          have HC : Hid (c = (((s.extract 1 s.size).data.toList.getD k 0).toNat : Int)) := hce
          clear hce
          go_wp2
          all_goals first
            | (refine ⟨⟨k + 1, by omega, by go_num, P.allT_take_t _ k (by simp [hz]; omega) HA.out ?_⟩, by simp [intOf]; omega⟩
               unfold P.tailB; rw [← HC.out]
               simp only [bne_iff_ne, bne_eq_false_iff_eq, ne_eq] at *
               exact P.tailI_t (by omega))
            | (go_ret
               refine ⟨ret_bool ?_, below_bytes w _⟩
               have hff : P.allT (s.extract 1 s.size).data.toList = false := by
                 refine P.allT_f_of _ k (by simp [hz]; omega) ?_
                 unfold P.tailB; rw [← HC.out]
                 simp only [bne_iff_ne, bne_eq_false_iff_eq, ne_eq] at *
                 exact P.tailI_f (by omega)
               rw [HN.out, hff, Bool.and_false])
        · go_wp2
          go_ret
          refine ⟨ret_bool ?_, below_bytes w _⟩
          rw [HN.out, P.allT_whole _ k (by simp [hz]; omega) HA.out]
          unfold P.headB; rw [P.headI_t ⟨h97, h122⟩]; rfl
    · have hf : P.headB s[0] = false := P.headI_f hh
      have HF : Hid (P.headB s[0] = false) := hf
      clear hf
      go_enter Try.func6, Try.ntmps6
      go_wp2
      all_goals
        go_ret
        exact ⟨ret_bool (by rw [HN.out, HF.out, Bool.false_and]), Below.refl _ _⟩

/-- IsName, where its answer is known, in a world that has grown from w0. -/
theorem name_val {w : World} (w0 : World) {s : ByteArray} (v : Bool) (hs : s.size ≤ maxLen) (hv : Hid (P.isName s.data.toList = v)) (hb : Below w0.heap.size w0 w) :
    Calls Try.prog 6 #[.string s] w fun e w' => e = .returned (.bool v) ∧ Below w0.heap.size w0 w' := by
  refine (name_any s w hs).mono ?_
  rintro e w' ⟨rfl, h⟩
  exact ⟨ret_bool hv.out, hb.trans (h.mono hb.size)⟩
end Go.Proofs.Qxb6628563a.Leaf
