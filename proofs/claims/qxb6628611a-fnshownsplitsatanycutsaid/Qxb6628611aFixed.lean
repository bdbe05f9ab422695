/-
  THE WALK OF pb1Fixed (8), and the float comparisons that the laws ask.
-/
import Derived.Test.Qxb6628611aShown
namespace Go.Proofs.Qxb6628611a.Fixed
open Go.RowKit
set_option linter.unusedSimpArgs false
set_option linter.unusedVariables false
attribute [local go_sem] Leaf.run_store_float

theorem cmp_le {a b : Int} (h : a ≤ b) : compare a b = .lt ∨ compare a b = .eq := by
  rcases Int.lt_or_eq_of_le h with h | h
  · exact .inl (Int.compare_eq_lt.2 h)
  · exact .inr (Int.compare_eq_eq.2 h)

theorem cmp_ge {a b : Int} (h : b ≤ a) : compare a b = .gt ∨ compare a b = .eq := by
  rcases Int.lt_or_eq_of_le h with h | h
  · exact .inl (Int.compare_eq_gt.2 h)
  · exact .inr (Int.compare_eq_eq.2 h.symm)

/-- Not a NaN: equal to itself. -/
theorem self_eq (W : Int) (h0 : -9223372036854775808 ≤ W) (h1 : W ≤ 9223372036854775807) : FloatKind.f64.format.order (Fl.secs W) (Fl.secs W) = some .eq := by
  obtain ⟨_, _, u, v, _, hv, _⟩ := Fl.secs_all W h0 h1
  have := Fl.order_num hv hv
  rw [Int.compare_eq_eq.2 rfl] at this
  exact this

/-- Of the window's sign. -/
theorem sign_gt (W : Int) (h0 : -9223372036854775808 ≤ W) (h1 : W ≤ 9223372036854775807) : (FloatKind.f64.format.order (Fl.secs W) 0 == some .gt) = decide (0 < W) ∧ (FloatKind.f64.format.order (Fl.secs W) 0 == some .lt) = decide (W < 0) := by
  obtain ⟨_, _, u, v, _, hv, _, _, _, _, p, n, z, _⟩ := Fl.secs_all W h0 h1
  have e : FloatKind.f64.format.order (Fl.secs W) 0 = some (compare v 0) := Fl.order_num hv Fl.num_zero
  rw [e]
  rcases Int.lt_trichotomy W 0 with h | h | h
  · rw [Int.compare_eq_lt.2 (n h), decide_eq_false (by omega), decide_eq_true h]; exact ⟨rfl, rfl⟩
  · rw [Int.compare_eq_eq.2 (z h), decide_eq_false (by omega), decide_eq_false (by omega)]; exact ⟨rfl, rfl⟩
  · rw [Int.compare_eq_gt.2 (p h), decide_eq_true h, decide_eq_false (by omega)]; exact ⟨rfl, rfl⟩

theorem whole (W : Int) (h0 : -9223372036854775808 ≤ W) (h1 : W ≤ 9223372036854775807) (hm : W.tmod 1000000000 = 0) : (FloatKind.f64.format.order (Fl.secs W) (floatOfInt .f64 (W.tdiv 1000000000)) == some .eq) = true := by
  obtain ⟨_, _, u, v, _, hv, hf, e, _⟩ := Fl.secs_all W h0 h1
  have : FloatKind.f64.format.order (Fl.secs W) (floatOfInt .f64 (W.tdiv 1000000000)) = some (compare v (W.tdiv 1000000000 * u)) := Fl.order_num hv hf
  rw [this, Int.compare_eq_eq.2 (e hm)]; rfl

theorem above (W : Int) (h0 : -9223372036854775808 ≤ W) (h1 : W ≤ 9223372036854775807) (hp : 0 < W) :
    (FloatKind.f64.format.order (Fl.secs W) (floatOfInt .f64 (W.tdiv 1000000000)) == some .gt || FloatKind.f64.format.order (Fl.secs W) (floatOfInt .f64 (W.tdiv 1000000000)) == some .eq) = true ∧
    ∃ r, floatBits .add .f64 (floatOfInt .f64 (W.tdiv 1000000000)) 4607182418800017408 = some r ∧ (FloatKind.f64.format.order (Fl.secs W) r == some .lt || FloatKind.f64.format.order (Fl.secs W) r == some .eq) = true := by
  obtain ⟨_, _, u, v, _, hv, hf, _, e, _, _, _, _, ⟨r, r1, r2⟩, _⟩ := Fl.secs_all W h0 h1
  have a : FloatKind.f64.format.order (Fl.secs W) (floatOfInt .f64 (W.tdiv 1000000000)) = some (compare v (W.tdiv 1000000000 * u)) := Fl.order_num hv hf
  have b : FloatKind.f64.format.order (Fl.secs W) r = some (compare v ((W.tdiv 1000000000 + 1) * u)) := Fl.order_num hv r2
  refine ⟨?_, r, r1, ?_⟩
  · rw [a]; rcases cmp_ge (e hp).1 with h | h <;> rw [h] <;> rfl
  · rw [b]; rcases cmp_le (e hp).2 with h | h <;> rw [h] <;> rfl

theorem below (W : Int) (h0 : -9223372036854775808 ≤ W) (h1 : W ≤ 9223372036854775807) (hp : W < 0) :
    (FloatKind.f64.format.order (Fl.secs W) (floatOfInt .f64 (W.tdiv 1000000000)) == some .lt || FloatKind.f64.format.order (Fl.secs W) (floatOfInt .f64 (W.tdiv 1000000000)) == some .eq) = true ∧
    ∃ r, floatBits .sub .f64 (floatOfInt .f64 (W.tdiv 1000000000)) 4607182418800017408 = some r ∧ (FloatKind.f64.format.order (Fl.secs W) r == some .gt || FloatKind.f64.format.order (Fl.secs W) r == some .eq) = true := by
  obtain ⟨_, _, u, v, _, hv, hf, _, _, e, _, _, _, _, ⟨r, r1, r2⟩⟩ := Fl.secs_all W h0 h1
  have a : FloatKind.f64.format.order (Fl.secs W) (floatOfInt .f64 (W.tdiv 1000000000)) = some (compare v (W.tdiv 1000000000 * u)) := Fl.order_num hv hf
  have b : FloatKind.f64.format.order (Fl.secs W) r = some (compare v ((W.tdiv 1000000000 - 1) * u)) := Fl.order_num hv r2
  refine ⟨?_, r, r1, ?_⟩
  · rw [a]; rcases cmp_le (e hp).2 with h | h <;> rw [h] <;> rfl
  · rw [b]; rcases cmp_ge (e hp).1 with h | h <;> rw [h] <;> rfl

set_option maxHeartbeats 1000000 in
theorem fixed_any (T W : Int) (w : World) (h0 : -9223372036854775808 ≤ W) (h1 : W ≤ 9223372036854775807) :
    Calls Try.prog 8 #[.agg #[.int .u32 T, .float .f64 (Fl.secs W)], .agg #[.int .u32 T, .int .i64 W]] w fun e w' => e = .returned (.bool true) ∧ Below w.heap.size w w' := by
  by_cases hm : W.tmod 1000000000 = 0
  · have c := whole W h0 h1 hm
    have hm' : (W.tmod 1000000000 == 0) = true := beq_iff_eq.2 hm
    clear hm
    go_enter Try.func8, Try.ntmps8
    go_wp2
    go_ret
    exact ⟨rfl, ((Below.refl _ w).alloc (Nat.le_refl _) _).alloc (by simp) _⟩
  · have hm' : (W.tmod 1000000000 == 0) = false := beq_eq_false_iff_ne.2 hm
    by_cases hp : 0 < W
    · obtain ⟨c1, r, hr, c2⟩ := above W h0 h1 hp
      have ra := fun (w : World) => run_float_arith (P := Try.prog) w .add 32 .f64 _ _ _ hr
      have hpd : decide (0 < W) = true := decide_eq_true hp
      clear hm hr hp
      go_enter Try.func8, Try.ntmps8
      go_wp2
      go_ret
      exact ⟨rfl, ((Below.refl _ w).alloc (Nat.le_refl _) _).alloc (by simp) _⟩
    · have hn : W < 0 := by
        rcases Int.lt_trichotomy W 0 with h | h | h
        · exact h
        · subst h; exact absurd rfl hm
        · omega
      obtain ⟨c1, r, hr, c2⟩ := below W h0 h1 hn
      have ra := fun (w : World) => run_float_arith (P := Try.prog) w .sub 32 .f64 _ _ _ hr
      have hpd : decide (0 < W) = false := decide_eq_false (by omega)
      clear hm hr hp hn
      go_enter Try.func8, Try.ntmps8
      go_wp2
      go_ret
      exact ⟨rfl, ((Below.refl _ w).alloc (Nat.le_refl _) _).alloc (by simp) _⟩
end Go.Proofs.Qxb6628611a.Fixed
