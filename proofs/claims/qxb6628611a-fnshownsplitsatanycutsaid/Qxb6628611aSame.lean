/-
  Struct comparison of two shown rates that are one; zzBytes of both laws.
-/
import Derived.Test.Qxb6628611aFixed
namespace Go.Proofs.Qxb6628611a.Same
open Go.RowKit
set_option linter.unusedSimpArgs false
set_option linter.unusedVariables false

theorem run_equalIn_float {P : Program} (w : World) (d : Nat) (t : TypeId) (k k' : FloatKind) (a b : Nat) (h : P.underlying t = some (.float k')) :
    (Op.equalIn (d + 1) t (.float k a) (.float k b)).run P w = .ok (k.format.order a b == some .eq) w := by
  simp [Op.equalIn, run_underlying h, Op.floatEq]

theorem stood : Try.prog.stoodInHeld 34 = false := by kernel_rfl

/-- 'a != b' of one and the same shown rate: no. -/
theorem neq_same (t : Int) (f : Nat) (hf : FloatKind.f64.format.order f f = some .eq) (w : World) :
    (binOp .neq 34 (.agg #[.int .u32 t, .float .f64 f]) (.agg #[.int .u32 t, .float .f64 f])).run Try.prog w = .ok (.bool false) w := by
  rw [run_neq_struct, run_equalIn_struct w 9999 34 _ _ (by simp [Program.fieldsOf, Try.underlying34]) stood]
  simp [Program.fieldsOf, Try.underlying34, Op.eqFields, part, run_equalIn_int, run_equalIn_float, Try.underlying31, Try.underlying32, hf, go_sem]

/-- WHAT THE WALKS ARE TOLD OF A SLICE OF STRINGS. -/
def Strs (w : World) (a : Option Addr) (len : Nat) (ss : Nat → ByteArray) : Prop :=
  len = 0 ∨ ∃ b off, a = some ⟨b, off, none⟩ ∧ ∀ k, k < len → w.cell? ⟨b, off + k, none⟩ = some (.string (ss k))

/-- It answers some bool. -/
def IsBool (e : Ending) : Prop := ∃ b, e = .returned (.bool b)

set_option maxHeartbeats 2000000 in
theorem bytes5 (s : ByteArray) (a1 : Option Addr) (len1 cap1 : Nat) (a2 : Option Addr) (len2 cap2 : Nat) (ss : Nat → ByteArray) (w : World) (hs : Strs w a2 len2 ss) :
    Calls Try.prog 5 #[.string s, .slice a1 len1 cap1, .slice a2 len2 cap2] w fun e w' => IsBool e ∧ w = w' := by
  by_cases hb : s.size + len1 + len2 ≤ 1048576
  · have d1 : decide (1048576 < (s.size : Int)) = false := decide_eq_false (by omega)
    have d2 : decide (1048576 < (len1 : Int)) = false := decide_eq_false (by omega)
    have d3 : decide (1048576 < (s.size : Int) + (len1 : Int)) = false := decide_eq_false (by omega)
    have d4 : decide (1048576 < (len2 : Int)) = false := decide_eq_false (by omega)
    have d5 : decide (1048576 < (s.size : Int) + (len1 : Int) + (len2 : Int)) = false := decide_eq_false (by omega)
    have HS : Hid (Strs w a2 len2 ss) := hs
    clear hs
    go_enter Try.func5, Try.ntmps5
    go_wp2
    go_loop [7, 8] (fun zz i => ∃ (k : Nat) (z : Int), k ≤ len2 ∧ i = .int .i64 k ∧ zz = .int .i64 z) (fun _ i => len2 - (intOf i).toNat)
    case atStart => exact ⟨0, _, Nat.zero_le _, rfl, rfl⟩
    case round =>
      obtain ⟨k, z, hk, rfl, rfl⟩ := hrel
      by_cases hlt : k < len2
      · rcases HS.out with h0 | ⟨b, off, rfl, hc⟩
        · omega
        · have c := hc k hlt
          clear hc
          go_wp2
          all_goals first
            | (go_ret; exact ⟨⟨_, rfl⟩, rfl⟩)
            | exact ⟨⟨k + 1, _, by omega, by go_num, rfl⟩, by simp [intOf]; omega⟩
      · go_wp2
        go_ret
        exact ⟨⟨_, rfl⟩, rfl⟩
  · by_cases h1 : s.size ≤ 1048576
    · by_cases h2 : len1 ≤ 1048576
      · by_cases h3 : s.size + len1 ≤ 1048576
        · by_cases h4 : len2 ≤ 1048576
          · go_enter Try.func5, Try.ntmps5
            go_wp2
            go_ret
            exact ⟨⟨_, rfl⟩, rfl⟩
          · go_enter Try.func5, Try.ntmps5
            go_wp2
            go_ret
            exact ⟨⟨_, rfl⟩, rfl⟩
        · go_enter Try.func5, Try.ntmps5
          go_wp2
          go_ret
          exact ⟨⟨_, rfl⟩, rfl⟩
      · go_enter Try.func5, Try.ntmps5
        go_wp2
        go_ret
        exact ⟨⟨_, rfl⟩, rfl⟩
    · go_enter Try.func5, Try.ntmps5
      go_wp2
      go_ret
      exact ⟨⟨_, rfl⟩, rfl⟩
set_option maxHeartbeats 2000000 in
theorem bytes9 (s : ByteArray) (a1 : Option Addr) (len1 cap1 : Nat) (a2 : Option Addr) (len2 cap2 : Nat) (ss : Nat → ByteArray) (cut : Int) (w : World) (hs : Strs w a2 len2 ss) :
    Calls Try.prog 9 #[.string s, .slice a1 len1 cap1, .slice a2 len2 cap2, .int .i64 cut] w fun e w' => IsBool e ∧ w = w' := by
  by_cases hb : s.size + len1 + len2 ≤ 1048576
  · have d1 : decide (1048576 < (s.size : Int)) = false := decide_eq_false (by omega)
    have d2 : decide (1048576 < (len1 : Int)) = false := decide_eq_false (by omega)
    have d3 : decide (1048576 < (s.size : Int) + (len1 : Int)) = false := decide_eq_false (by omega)
    have d4 : decide (1048576 < (len2 : Int)) = false := decide_eq_false (by omega)
    have d5 : decide (1048576 < (s.size : Int) + (len1 : Int) + (len2 : Int)) = false := decide_eq_false (by omega)
    have HS : Hid (Strs w a2 len2 ss) := hs
    clear hs
    go_enter Try.func9, Try.ntmps9
    go_wp2
    go_loop [9, 10] (fun zz i => ∃ (k : Nat) (z : Int), k ≤ len2 ∧ i = .int .i64 k ∧ zz = .int .i64 z) (fun _ i => len2 - (intOf i).toNat)
    case atStart => exact ⟨0, _, Nat.zero_le _, rfl, rfl⟩
    case round =>
      obtain ⟨k, z, hk, rfl, rfl⟩ := hrel
      by_cases hlt : k < len2
      · rcases HS.out with h0 | ⟨b, off, rfl, hc⟩
        · omega
        · have c := hc k hlt
          clear hc
          go_wp2
          all_goals first
            | (go_ret; exact ⟨⟨_, rfl⟩, rfl⟩)
            | exact ⟨⟨k + 1, _, by omega, by go_num, rfl⟩, by simp [intOf]; omega⟩
      · go_wp2
        go_ret
        exact ⟨⟨_, rfl⟩, rfl⟩
  · by_cases h1 : s.size ≤ 1048576
    · by_cases h2 : len1 ≤ 1048576
      · by_cases h3 : s.size + len1 ≤ 1048576
        · by_cases h4 : len2 ≤ 1048576
          · go_enter Try.func9, Try.ntmps9
            go_wp2
            go_ret
            exact ⟨⟨_, rfl⟩, rfl⟩
          · go_enter Try.func9, Try.ntmps9
            go_wp2
            go_ret
            exact ⟨⟨_, rfl⟩, rfl⟩
        · go_enter Try.func9, Try.ntmps9
          go_wp2
          go_ret
          exact ⟨⟨_, rfl⟩, rfl⟩
      · go_enter Try.func9, Try.ntmps9
        go_wp2
        go_ret
        exact ⟨⟨_, rfl⟩, rfl⟩
    · go_enter Try.func9, Try.ntmps9
      go_wp2
      go_ret
      exact ⟨⟨_, rfl⟩, rfl⟩
end Go.Proofs.Qxb6628611a.Same
