/-
  Limit.Shown (7) whatever the number of rates; pb1List (10).
-/
import Derived.Test.Qxb6628611aAgree
namespace Go.Proofs.Qxb6628611a.Lst
open Go.RowKit
set_option linter.unusedSimpArgs false
set_option linter.unusedVariables false
attribute [local go_sem] Leaf.run_store_float

/-- What Shown gives for a list: none for one rate; else a row of them. -/
def IsList (w : World) (a : Option Addr) (l c n : Nat) (T W : Nat → Int) : Prop :=
  (a = none ∧ l = 0 ∧ c = 0 ∧ n = 1) ∨ (∃ g, a = some ⟨g, 0, none⟩ ∧ l = n ∧ c = n ∧ 2 ≤ n ∧ Shown.FRow w g n T W)

theorem IsList.below {w w' : World} {a : Option Addr} {l c n : Nat} {T W : Nat → Int} (h : IsList w a l c n T W) (hb : Below w.heap.size w w') : IsList w' a l c n T W := by
  rcases h with h | ⟨g, h1, h2, h3, h4, h5⟩
  · exact .inl h
  · exact .inr ⟨g, h1, h2, h3, h4, h5.below hb⟩

theorem shown_all (p r n : Nat) (T W : Nat → Int) (w : World) (h1 : 1 ≤ n) (hn : n ≤ 65536) (hp : w.cell? ⟨p, 1, none⟩ = some (.slice (some ⟨r, 0, none⟩) n n)) (hrow : Rates.Row w r 0 n T W) (hf : Shown.Fits n W) :
    Calls Try.prog 7 #[.pointer (some ⟨p, 0, none⟩)] w fun e w' => ∃ a l c, e = .returned (.agg #[.int .u32 (T 0), .float .f64 (Fl.secs (W 0)), .int .i64 0, .slice a l c]) ∧ Below w.heap.size w w' ∧ IsList w' a l c n T W := by
  by_cases h : n = 1
  · refine (Agree.shown_single p r n T W w h hp hrow hf).mono ?_
    rintro e w' ⟨rfl, hb⟩
    exact ⟨none, 0, 0, rfl, hb, .inl ⟨rfl, rfl, rfl, h⟩⟩
  · refine (Shown.shown_many p r n T W w (by omega) hn hp hrow hf).mono ?_
    rintro e w' ⟨g, rfl, hb, hr⟩
    exact ⟨some ⟨g, 0, none⟩, n, n, rfl, hb, .inr ⟨g, rfl, rfl, rfl, by omega, hr⟩⟩

set_option maxHeartbeats 1000000 in
theorem list_any (n : Nat) (T W : Nat → Int) (a : Option Addr) (l c : Nat) (w : World) (hl : IsList w a l c n T W) :
    Calls Try.prog 10 #[.agg #[.int .u32 (T 0), .float .f64 (Fl.secs (W 0)), .int .i64 0, .slice a l c]] w fun e w' => ∃ g cap, e = .returned (.slice (some ⟨g, 0, none⟩) n cap) ∧ Below w.heap.size w w' ∧ Shown.FRow w' g n T W := by
  rcases hl with ⟨rfl, rfl, rfl, rfl⟩ | ⟨g, rfl, e1, e2, h2, hr⟩
  · go_enter Try.func10, Try.ntmps10
    go_wp2
    go_ret
    refine ⟨w.heap.size + 1, 1, rfl, ((Below.refl _ w).alloc (Nat.le_refl _) _).alloc (by simp) _, ?_⟩
    intro j hj
    obtain rfl : j = 0 := by omega
    constructor
    · rw [World.cell?_alloc_at _ _ _ _ (by simp)]; rfl
    · rw [World.cell?_alloc_at _ _ _ _ (by simp)]; rfl
  · subst l
    subst c
    have HR : Hid (Shown.FRow w g n T W) := hr
    clear hr
    have hz : ((n : Int) == 0) = false := beq_eq_false_iff_ne.2 (by omega)
    go_enter Try.func10, Try.ntmps10
    go_wp2
    go_ret
    exact ⟨g, n, rfl, (Below.refl _ w).alloc (Nat.le_refl _) _, HR.out.below ((Below.refl _ w).alloc (Nat.le_refl _) _)⟩
end Go.Proofs.Qxb6628611a.Lst
