/-
  THE WALKS THAT BOTH LAWS SHARE: PlainName (7), zzb1InBase64URL (9).
-/
import Derived.Test.Qxb6628024aRows
import Derived.Test.Qxb6628024aPlain
import Derived.WalkKit
import Derived.WalkSpells
import Derived.Below
import Derived.Lib.ConvBytes
import Derived.Lib.Strings
namespace Go.Proofs.Qxb6628024a.Leaf
open Go.RowKit
set_option linter.unusedSimpArgs false

theorem below_bytes (w : World) (s : ByteArray) : Below w.heap.size w (Lib.bytesWorld w 5 s) :=
  ⟨rfl, rfl, rfl, by rw [Lib.bytesWorld_size]; omega, fun k hk => Lib.bytesWorld_at_old w 5 s k hk⟩

theorem ret_bool {a b : Bool} (h : a = b) : Ending.returned (.bool a) = .returned (.bool b) := by rw [h]

theorem plain_empty {s : ByteArray} (h : s.toList.isEmpty = true) : P.plain s.data.toList = false := by
  rw [Lib.toList_data] at h; unfold P.plain; rw [h]; rfl

theorem plain_more {s : ByteArray} (h : s.toList.isEmpty = false) : P.plain s.data.toList = P.allOk s.data.toList := by
  rw [Lib.toList_data] at h; unfold P.plain; rw [h]; rfl

set_option maxHeartbeats 1000000 in
theorem plain_any (s : ByteArray) (w : World) (hs : s.size ≤ maxLen) :
    Calls Try.prog 7 #[.string s] w fun e w' => e = .returned (.bool (P.plain s.data.toList)) ∧ Below w.heap.size w w' := by
  unfold maxLen at hs
  have hcv := Lib.run_convert_string_bytes (P := Try.prog) w 9 25 5 s Try.underlying9 Try.underlying25 Try.underlying5
  cases he : s.toList.isEmpty with
  | true =>
    go_enter Try.func7, Try.ntmps7
    go_wp2
    go_ret
    exact ⟨ret_bool (plain_empty he).symm, Below.refl _ _⟩
  | false =>
    go_enter Try.func7, Try.ntmps7
    go_wp2
    go_loop [10] (fun i => ∃ k : Nat, k ≤ s.size ∧ i = .int .i64 k ∧ P.allOk (s.data.toList.take k) = true) (fun i => s.size - (intOf i).toNat)
    case atStart => exact ⟨0, Nat.zero_le _, rfl, rfl⟩
    case round =>
      obtain ⟨k, hk, rfl, hall⟩ := hrel
      have HA : Hid (P.allOk (s.data.toList.take k) = true) := hall
      clear hall
      by_cases hlt : k < s.size
      · have hc := Lib.bytesWorld_cell w 5 s k hlt
        obtain ⟨c, hce⟩ : ∃ c : Int, c = ((s.data.toList.getD k 0).toNat : Int) := ⟨_, rfl⟩
        have hc0 : 0 ≤ c := by omega
        have hc1 : c ≤ 255 := by have := (s.data.toList.getD k 0).toNat_lt; omega
        rw [← hce] at hc
        have HC : Hid (c = ((s.data.toList.getD k 0).toNat : Int)) := hce
        clear hce
        go_wp2
        all_goals first
          | (refine ⟨⟨k + 1, by omega, by go_num, P.allOk_take_t s k hlt HA.out ?_⟩, by simp [intOf]; omega⟩
             unfold P.okB; rw [← HC.out]
             simp only [beq_iff_eq, beq_eq_false_iff_ne, ne_eq] at *
             exact P.okI_t (by omega))
          | (go_ret
             refine ⟨ret_bool ?_, below_bytes w s⟩
             rw [plain_more he]
             refine (P.allOk_f_of _ k (by simpa using hlt) ?_).symm
             unfold P.okB; rw [← HC.out]
             simp only [beq_iff_eq, beq_eq_false_iff_ne, ne_eq] at *
             exact P.okI_f (by omega))
      · go_wp2
        go_ret
        exact ⟨ret_bool (by rw [plain_more he, P.allOk_whole s k hlt HA.out]), below_bytes w s⟩

set_option maxHeartbeats 1000000 in
theorem in64_any (c : Int) (w : World) (h0 : 0 ≤ c) (h1 : c ≤ 255) :
    Calls Try.prog 9 #[.int .u8 c] w fun e w' => e = .returned (.bool (P.okI c)) ∧ w' = w := by
  go_enter Try.func9, Try.ntmps9
  go_wp2
  go_loop [3] (fun i => ∃ k : Nat, k ≤ 64 ∧ i = .int .i64 k ∧ Hid (∀ j, j < k → P.alphaI j ≠ c)) (fun i => 64 - (intOf i).toNat)
  case atStart => exact ⟨0, Nat.zero_le _, rfl, fun j hj => absurd hj (Nat.not_lt_zero _)⟩
  case round =>
    obtain ⟨k, hk, rfl, hall⟩ := hrel
    by_cases hlt : k < 64
    · go_wp2
      · rename_i hq _
        have hq2 : (P.alphaI k == c) = true := by rw [← P.alpha_at k hlt]; exact hq
        rw [beq_iff_eq] at hq2
        go_ret
        exact ⟨ret_bool (by rw [← hq2, P.alpha_ok k hlt]), rfl⟩
      · rename_i hq
        have hq2 : (P.alphaI k == c) = false := by rw [← P.alpha_at k hlt]; exact hq
        rw [beq_eq_false_iff_ne] at hq2
        refine ⟨⟨k + 1, by omega, by go_num, fun j hj => ?_⟩, by simp [intOf]; omega⟩
        by_cases e : j = k
        · rw [e]; exact hq2
        · exact hall.out j (by omega)
    · go_wp2
      go_ret
      exact ⟨ret_bool (by rw [P.ok_none c h0 h1 (fun j hj => hall.out j (by omega))]), rfl⟩
end Go.Proofs.Qxb6628024a.Leaf
