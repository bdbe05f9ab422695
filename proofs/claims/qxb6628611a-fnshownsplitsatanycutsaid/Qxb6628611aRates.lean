/-
  THE WALK OF pb1Rates (6).
-/
import Derived.Test.Qxb6628611aLeaf
import Derived.BigRegion
namespace Go.Proofs.Qxb6628611a.Rates
open Go.RowKit
set_option linter.unusedSimpArgs false
set_option linter.unusedVariables false
attribute [local go_sem] Leaf.run_store_float

/-- A row of n pairs of a uint32 and an int64, from 'off' on. -/
def Row (w : World) (b off n : Nat) (T W : Nat → Int) : Prop :=
  ∀ j, j < n → w.cell? ⟨b, off + j * 2, none⟩ = some (.int .u32 (T j)) ∧ w.cell? ⟨b, off + j * 2 + 1, none⟩ = some (.int .i64 (W j))

theorem Row.below {w w' : World} {b off n : Nat} {T W : Nat → Int} (h : Row w b off n T W) (hb : Below w.heap.size w w') : Row w' b off n T W :=
  fun j hj => ⟨cell_later hb (h j hj).1, cell_later hb (h j hj).2⟩

theorem info46 : (Try.prog.info? 46).map (fun i => (i.zero, i.size, i.bytes)) = some (some (.agg #[.int .u32 0, .int .i64 0]), 2, 16) := by kernel_rfl

/-- A pair stored into an owned row. -/
theorem step {wr : World} {base e n k : Nat} {P1 P2 : Nat → Value} {xs : List Value} (hlt : k < n)
    (h : wr.ownsRow base e 2 (.slice (some ⟨base, 0, none⟩) n n) n xs ∧ ∀ j, j < k → xs[j * 2]? = some (P1 j) ∧ xs[j * 2 + 1]? = some (P2 j)) :
    ∃ ys, ((wr.setCell ⟨base, k * 2, none⟩ (P1 k)).setCell ⟨base, k * 2 + 1, none⟩ (P2 k)).drew.ownsRow base e 2 (.slice (some ⟨base, 0, none⟩) n n) n ys ∧ ∀ j, j < k + 1 → ys[j * 2]? = some (P1 j) ∧ ys[j * 2 + 1]? = some (P2 j) := by
  obtain ⟨ho, hx⟩ := h
  have hlen : xs.length = n * 2 := ho.1
  have o1 := (ho.stored (k * 2) (P1 k)).1
  have o2 := (o1.stored (k * 2 + 1) (P2 k)).1
  refine ⟨_, o2.drew, fun j hj => ?_⟩
  by_cases e : j = k
  · subst e
    constructor
    · rw [List.getElem?_set_ne (by omega), List.getElem?_set_self (by omega)]
    · rw [List.getElem?_set_self (by simp; omega)]
  · have a := hx j (by omega)
    constructor
    · rw [List.getElem?_set_ne (by omega), List.getElem?_set_ne (by omega)]; exact a.1
    · rw [List.getElem?_set_ne (by omega), List.getElem?_set_ne (by omega)]; exact a.2

set_option maxHeartbeats 1000000 in
theorem rates_any (b off n cap : Nat) (T W : Nat → Int) (w : World) (hn : n ≤ 65536) (hrow : Row w b off n T W) :
    Calls Try.prog 6 #[.slice (some ⟨b, off, none⟩) n cap] w fun e w' => e = .returned (.slice (some ⟨w.heap.size, 0, none⟩) n n) ∧ Below w.heap.size w w' ∧ Row w' w.heap.size 0 n T W := by
  obtain ⟨i0, hi0, hz0, hz1, hz2⟩ := info_parts info46
  have HR : Hid (Row w b off n T W) := hrow
  clear hrow
  go_enter Try.func6, Try.ntmps6
  go_wp2_with (first
    | (at_make; refine wpList_make_full _ rfl _ _ 26 rfl w.heap.size 46 i0 (.agg #[.int .u32 0, .int .i64 0]) 2 Try.underlying26 hi0 hz0 hz1 .i64 .i64 _ _ n rfl rfl rfl rfl (by rw [hz2]; omega) (by unfold maxLen; omega) (Nat.le_refl _) ?_; intro w1 hown1 hgrow1; have hb1 := (Below.refl w.heap.size w).grown hgrow1 (Nat.le_refl _) (fun k hk => by cases hk); clear hgrow1))
  go_loopw [4] (fun i wr => ∃ k : Nat, k ≤ n ∧ i = .int .i64 k ∧ Hid (∃ xs, wr.ownsRow w.heap.size 46 2 (.slice (some ⟨w.heap.size, 0, none⟩) n n) n xs ∧ ∀ j, j < k → xs[j * 2]? = some (.int .u32 (T j)) ∧ xs[j * 2 + 1]? = some (.int .i64 (W j))) ∧ Below w.heap.size w wr) (fun i _ => n - (intOf i).toNat)
  case atStart => exact ⟨0, Nat.zero_le _, rfl, ⟨_, hown1, fun j hj => absurd hj (Nat.not_lt_zero _)⟩, hb1⟩
  case round =>
    obtain ⟨k, hk, rfl, hown, hbr⟩ := hrel
    clear hown1 hb1
    by_cases hlt : k < n
    · obtain ⟨xs, ho, hx⟩ := hown.out
      have hlen : xs.length = n * 2 := ho.1
      have hrk := (HR.out.below hbr) k hlt
      have c1 := hrk.1
      have c2 := hrk.2
      have e1 := ho.cellAt (k * 2) (by omega)
      have e2 := ho.cellAt (k * 2 + 1) (by omega)
      rw [List.getElem?_eq_getElem (by omega)] at e1 e2
      have f1 := ho.frozenAt (k * 2)
      have f2 := ho.frozenAt (k * 2 + 1)
      generalize xs[k * 2] = y1 at e1
      generalize xs[k * 2 + 1] = y2 at e2
      have HX : Hid (wr.ownsRow w.heap.size 46 2 (.slice (some ⟨w.heap.size, 0, none⟩) n n) n xs ∧ ∀ j, j < k → xs[j * 2]? = some (.int .u32 (T j)) ∧ xs[j * 2 + 1]? = some (.int .i64 (W j))) := ⟨ho, hx⟩
      clear ho hx hrk hown hlen
      go_wp2
      go_region
      all_goals
        go_wp2
        exact ⟨⟨k + 1, by omega, by go_num, step (P1 := fun j => .int .u32 (T j)) (P2 := fun j => .int .i64 (W j)) hlt HX.out, ((hbr.setCell (by exact Nat.le_refl _) _).setCell (by exact Nat.le_refl _) _).drew⟩, by simp [intOf]; omega⟩
    · go_wp2
      go_ret
      obtain ⟨xs, ho, hx⟩ := hown.out
      refine ⟨rfl, hbr, fun j hj => ?_⟩
      have a := hx j (by omega)
      have b1 := ho.cellAt (j * 2) (by omega)
      have b2 := ho.cellAt (j * 2 + 1) (by omega)
      rw [Nat.zero_add]
      exact ⟨b1.trans a.1, b2.trans a.2⟩
end Go.Proofs.Qxb6628611a.Rates
