/-
  THE WALK OF Limit.Shown (7).
-/
import Derived.Test.Qxb6628611aRates
namespace Go.Proofs.Qxb6628611a.Shown
open Go.RowKit
set_option linter.unusedSimpArgs false
set_option linter.unusedVariables false
attribute [local go_sem] Leaf.run_store_float

/-- The windows fit an int64. -/
def Fits (n : Nat) (W : Nat → Int) : Prop := ∀ j, j < n → -9223372036854775808 ≤ W j ∧ W j ≤ 9223372036854775807

theorem bcell {W w1 : World} (hb : Below W.heap.size W w1) : (∀ b o, b < W.heap.size → w1.cell? ⟨b, o, none⟩ = W.cell? ⟨b, o, none⟩) ∧ (∀ b o, b < W.heap.size → w1.frozen? ⟨b, o, none⟩ = W.frozen? ⟨b, o, none⟩) :=
  ⟨fun b o h => hb.cell (p := ⟨b, o, none⟩) h, fun b o h => hb.frozen (p := ⟨b, o, none⟩) h⟩

set_option maxHeartbeats 1000000 in
theorem shown_one (p r : Nat) (T W : Nat → Int) (w : World) (hp : w.cell? ⟨p, 1, none⟩ = some (.slice (some ⟨r, 0, none⟩) 1 1)) (hrow : Rates.Row w r 0 1 T W) (hf : Fits 1 W) :
    Calls Try.prog 7 #[.pointer (some ⟨p, 0, none⟩)] w fun e w' => e = .returned (.agg #[.int .u32 (T 0), .float .f64 (Fl.secs (W 0)), .int .i64 0, .slice none 0 0]) ∧ Below w.heap.size w w' := by
  have hpl : p < w.heap.size := World.block_lt_of_cell? _ _ hp
  have r0 := (hrow 0 (by omega)).1
  have r1 := (hrow 0 (by omega)).2
  simp only [Nat.zero_add, Nat.zero_mul] at r0 r1
  have hrl : r < w.heap.size := World.block_lt_of_cell? _ _ r0
  have hW := hf 0 (by omega)
  have HF : Hid (Fits 1 W) := hf
  have HRW : Hid (Rates.Row w r 0 1 T W) := hrow
  clear hf hrow
  go_enter Try.func7, Try.ntmps7
  go_wp2_with fail
  refine (Leaf.shown_any (T 0) (W 0) _ hW.1 hW.2).mono ?_
  rintro e w1 ⟨rfl, hb1⟩
  obtain ⟨hc, hfz⟩ := bcell hb1
  have hz : w.heap.size < w1.heap.size := by have := hb1.size; simp at this; omega
  have z0 : w1.cell? ⟨w.heap.size, 0, none⟩ = some (.int .u32 0) := by rw [hc _ _ (by simp)]; simp
  have z1 : w1.cell? ⟨w.heap.size, 1, none⟩ = some (.float .f64 0) := by rw [hc _ _ (by simp)]; simp
  have z2 : w1.cell? ⟨w.heap.size, 2, none⟩ = some (.int .i64 0) := by rw [hc _ _ (by simp)]; simp
  have z3 : w1.cell? ⟨w.heap.size, 3, none⟩ = some (.slice none 0 0) := by rw [hc _ _ (by simp)]; simp
  have zf : ∀ o, w1.frozen? ⟨w.heap.size, o, none⟩ = false := fun o => by rw [hfz _ _ (by simp)]; simp
  have hp1 : w1.cell? ⟨p, 1, none⟩ = some (.slice (some ⟨r, 0, none⟩) 1 1) := by rw [hc _ _ (by simp; omega), World.cell?_alloc_old _ _ _ (by simp; omega)]; exact hp
  have hb2 : Below w.heap.size w w1 := ((Below.refl _ w).alloc (Nat.le_refl _) _).trans (hb1.mono (by simp))
  clear hc hfz hb1 hp r0 r1
  have hpl1 : p < w1.heap.size := by omega
  go_wp2
  refine bodyPost_ret (v := .agg #[.int .u32 (T 0), .float .f64 (Fl.secs (W 0)), .int .i64 0, .slice none 0 0]) (by simp [results, Try.results7, go_sem, z0, z1, z2, z3, hz]) rfl ⟨rfl, ?_⟩
  exact ((((hb2.setCell (Nat.le_refl _) _).setCell (Nat.le_refl _) _).setCell (Nat.le_refl _) _).setCell (Nat.le_refl _) _).alloc (by simp; omega) _

/-- A row of n pairs of a uint32 and the float64 that Seconds gives. -/
def FRow (w : World) (g n : Nat) (T W : Nat → Int) : Prop :=
  ∀ j, j < n → w.cell? ⟨g, j * 2, none⟩ = some (.int .u32 (T j)) ∧ w.cell? ⟨g, j * 2 + 1, none⟩ = some (.float .f64 (Fl.secs (W j)))

theorem FRow.below {w w' : World} {g n : Nat} {T W : Nat → Int} (h : FRow w g n T W) (hb : Below w.heap.size w w') : FRow w' g n T W :=
  fun j hj => ⟨cell_later hb (h j hj).1, cell_later hb (h j hj).2⟩

theorem info34 : (Try.prog.info? 34).map (fun i => (i.zero, i.size, i.bytes)) = some (some (.agg #[.int .u32 0, .float .f64 0]), 2, 16) := by kernel_rfl

/-- What stands through the loop: the result's cell and the local 'shown'. -/
structure Inv (w : World) (Bs : Nat) (t : Int) (f : Nat) (sl : Value) (wr : World) : Prop where
  bel : Below w.heap.size w wr
  ltw : w.heap.size < wr.heap.size
  lts : Bs < wr.heap.size
  old : w.heap.size < Bs
  z0 : wr.cell? ⟨w.heap.size, 0, none⟩ = some (.int .u32 0)
  z1 : wr.cell? ⟨w.heap.size, 1, none⟩ = some (.float .f64 0)
  z2 : wr.cell? ⟨w.heap.size, 2, none⟩ = some (.int .i64 0)
  z3 : wr.cell? ⟨w.heap.size, 3, none⟩ = some (.slice none 0 0)
  zf : ∀ o, wr.frozen? ⟨w.heap.size, o, none⟩ = false
  s0 : wr.cell? ⟨Bs, 0, none⟩ = some (.int .u32 t)
  s1 : wr.cell? ⟨Bs, 1, none⟩ = some (.float .f64 f)
  s2 : wr.cell? ⟨Bs, 2, none⟩ = some (.int .i64 0)
  s3 : wr.cell? ⟨Bs, 3, none⟩ = some sl
  sf : ∀ o, wr.frozen? ⟨Bs, o, none⟩ = false

theorem Inv.below {w wr w3 : World} {Bs f : Nat} {t : Int} {sl : Value} (h : Inv w Bs t f sl wr) (hb : Below wr.heap.size wr w3) : Inv w Bs t f sl w3 where
  bel := h.bel.trans (hb.mono h.bel.size)
  ltw := Nat.lt_of_lt_of_le h.ltw hb.size
  lts := Nat.lt_of_lt_of_le h.lts hb.size
  old := h.old
  z0 := cell_later hb h.z0
  z1 := cell_later hb h.z1
  z2 := cell_later hb h.z2
  z3 := cell_later hb h.z3
  zf := fun o => (hb.frozen (p := ⟨w.heap.size, o, none⟩) h.ltw).trans (h.zf o)
  s0 := cell_later hb h.s0
  s1 := cell_later hb h.s1
  s2 := cell_later hb h.s2
  s3 := cell_later hb h.s3
  sf := fun o => (hb.frozen (p := ⟨Bs, o, none⟩) h.lts).trans (h.sf o)

/-- A store into another block of the call's own. -/
theorem Inv.store {w wr : World} {Bs f : Nat} {t : Int} {sl : Value} (h : Inv w Bs t f sl wr) (G o : Nat) (u : Value) (hG : Bs < G) : Inv w Bs t f sl (wr.setCell ⟨G, o, none⟩ u) where
  bel := h.bel.setCell (by have := h.old; show w.heap.size ≤ G; omega) u
  ltw := by simpa using h.ltw
  lts := by simpa using h.lts
  old := h.old
  z0 := (World.cell?_setCell_other _ _ _ _ (by have := h.old; first | (simp; done) | (simp; omega))).trans h.z0
  z1 := (World.cell?_setCell_other _ _ _ _ (by have := h.old; first | (simp; done) | (simp; omega))).trans h.z1
  z2 := (World.cell?_setCell_other _ _ _ _ (by have := h.old; first | (simp; done) | (simp; omega))).trans h.z2
  z3 := (World.cell?_setCell_other _ _ _ _ (by have := h.old; first | (simp; done) | (simp; omega))).trans h.z3
  zf := fun x => (World.frozen?_setCell _ _ _ _).trans (h.zf x)
  s0 := (World.cell?_setCell_other _ _ _ _ (by first | (simp; done) | (simp; omega))).trans h.s0
  s1 := (World.cell?_setCell_other _ _ _ _ (by first | (simp; done) | (simp; omega))).trans h.s1
  s2 := (World.cell?_setCell_other _ _ _ _ (by first | (simp; done) | (simp; omega))).trans h.s2
  s3 := (World.cell?_setCell_other _ _ _ _ (by first | (simp; done) | (simp; omega))).trans h.s3
  sf := fun x => (World.frozen?_setCell _ _ _ _).trans (h.sf x)

/-- Behind the making of the list. -/
theorem Inv.made {w w1 w2 : World} {f : Nat} {t : Int} (hb : Below w.heap.size w w1) (hz : w.heap.size < w1.heap.size)
    (z0 : w1.cell? ⟨w.heap.size, 0, none⟩ = some (.int .u32 0)) (z1 : w1.cell? ⟨w.heap.size, 1, none⟩ = some (.float .f64 0)) (z2 : w1.cell? ⟨w.heap.size, 2, none⟩ = some (.int .i64 0))
    (z3 : w1.cell? ⟨w.heap.size, 3, none⟩ = some (.slice none 0 0)) (zf : ∀ o, w1.frozen? ⟨w.heap.size, o, none⟩ = false)
    (hg : (w1.alloc (.cells #[.int .u32 t, .float .f64 f, .int .i64 0, .slice none 0 0] 37)).grownBy w2 none) : Inv w w1.heap.size t f (.slice none 0 0) w2 := by
  have hbb : Below (w1.alloc (.cells #[.int .u32 t, .float .f64 f, .int .i64 0, .slice none 0 0] 37)).heap.size (w1.alloc (.cells #[.int .u32 t, .float .f64 f, .int .i64 0, .slice none 0 0] 37)) w2 :=
    ⟨hg.os, hg.tape, hg.output, hg.size, fun k hk => hg.block k hk (by simp)⟩
  have h1 : Below w1.heap.size w1 (w1.alloc (.cells #[.int .u32 t, .float .f64 f, .int .i64 0, .slice none 0 0] 37)) := (Below.refl _ w1).alloc (Nat.le_refl _) _
  have base : Inv w w1.heap.size t f (.slice none 0 0) (w1.alloc (.cells #[.int .u32 t, .float .f64 f, .int .i64 0, .slice none 0 0] 37)) := {
    bel := hb.trans (h1.mono hb.size)
    ltw := by simp; omega
    lts := by simp
    old := hz
    z0 := cell_later h1 z0
    z1 := cell_later h1 z1
    z2 := cell_later h1 z2
    z3 := cell_later h1 z3
    zf := fun o => (h1.frozen (p := ⟨w.heap.size, o, none⟩) hz).trans (zf o)
    s0 := by simp
    s1 := by simp
    s2 := by simp
    s3 := by simp
    sf := fun o => by simp }
  exact base.below hbb

/-- The list's own header stored into 'shown'. -/
theorem Inv.header {w wr : World} {Bs f : Nat} {t : Int} {sl : Value} (h : Inv w Bs t f sl wr) (u : Value) : Inv w Bs t f u (wr.setCell ⟨Bs, 3, none⟩ u) where
  bel := h.bel.setCell (by have := h.old; show w.heap.size ≤ Bs; omega) u
  ltw := by simpa using h.ltw
  lts := by simpa using h.lts
  old := h.old
  z0 := (World.cell?_setCell_other _ _ _ _ (by have := h.old; first | (simp; done) | (simp; omega))).trans h.z0
  z1 := (World.cell?_setCell_other _ _ _ _ (by have := h.old; first | (simp; done) | (simp; omega))).trans h.z1
  z2 := (World.cell?_setCell_other _ _ _ _ (by have := h.old; first | (simp; done) | (simp; omega))).trans h.z2
  z3 := (World.cell?_setCell_other _ _ _ _ (by have := h.old; first | (simp; done) | (simp; omega))).trans h.z3
  zf := fun x => (World.frozen?_setCell _ _ _ _).trans (h.zf x)
  s0 := (World.cell?_setCell_other _ _ _ _ (by simp)).trans h.s0
  s1 := (World.cell?_setCell_other _ _ _ _ (by simp)).trans h.s1
  s2 := (World.cell?_setCell_other _ _ _ _ (by simp)).trans h.s2
  s3 := World.cell?_setCell_same _ _ _ h.s3
  sf := fun x => (World.frozen?_setCell _ _ _ _).trans (h.sf x)

theorem _root_.Go.World.grownBy.below_none {a b : World} (h : a.grownBy b none) : Below a.heap.size a b := ⟨h.os, h.tape, h.output, h.size, fun k hk => h.block k hk (by simp)⟩

theorem grown_below {w w' : World} (h : Below w.heap.size w w') (row : Option Nat) : w.grownBy w' row := ⟨h.os, h.tape, h.output, h.size, fun k hk _ => h.block k hk⟩

/-- The list, filled up to k. -/
def Part (w wr : World) (G n k : Nat) (T W : Nat → Int) : Prop :=
  ∃ xs, wr.ownsRow w.heap.size 34 2 (.slice (some ⟨G, 0, none⟩) n n) n xs ∧ ∀ j, j < k → xs[j * 2]? = some (.int .u32 (T j)) ∧ xs[j * 2 + 1]? = some (.float .f64 (Fl.secs (W j)))

theorem Part.below {w wr w3 : World} {G n k : Nat} {T W : Nat → Int} (h : Part w wr G n k T W) (hb : Below wr.heap.size wr w3) : Part w w3 G n k T W := by
  obtain ⟨xs, ho, hx⟩ := h
  exact ⟨xs, ho.kept (grown_below hb none) (.inr (by simp [Value.ownBlock])), hx⟩

theorem Part.step {w w3 : World} {G n k : Nat} {T W : Nat → Int} (h : Part w w3 G n k T W) (hlt : k < n) :
    Part w ((w3.setCell ⟨G, k * 2, none⟩ (.int .u32 (T k))).setCell ⟨G, k * 2 + 1, none⟩ (.float .f64 (Fl.secs (W k)))) G n (k + 1) T W := by
  obtain ⟨xs, ho, hx⟩ := h
  have hlen : xs.length = n * 2 := ho.1
  have o1 := (ho.stored (k * 2) (.int .u32 (T k))).1
  have o2 := (o1.stored (k * 2 + 1) (.float .f64 (Fl.secs (W k)))).1
  refine ⟨_, o2, fun j hj => ?_⟩
  by_cases e : j = k
  · subst e
    constructor
    · rw [List.getElem?_set_ne (by omega), List.getElem?_set_self (by omega)]
    · rw [List.getElem?_set_self (by simp; omega)]
  · have a := hx j (by omega)
    constructor
    · rw [List.getElem?_set_ne (by omega), List.getElem?_set_ne (by omega)]; exact a.1
    · rw [List.getElem?_set_ne (by omega), List.getElem?_set_ne (by omega)]; exact a.2

theorem Part.row {w wr : World} {G n : Nat} {T W : Nat → Int} (h : Part w wr G n n T W) : FRow wr G n T W := by
  obtain ⟨xs, ho, hx⟩ := h
  intro j hj
  have a := hx j hj
  exact ⟨(ho.cellAt (j * 2) (by omega)).trans a.1, (ho.cellAt (j * 2 + 1) (by omega)).trans a.2⟩

set_option maxHeartbeats 2000000 in
theorem shown_many (p r n : Nat) (T W : Nat → Int) (w : World) (h2 : 2 ≤ n) (hn : n ≤ 65536) (hp : w.cell? ⟨p, 1, none⟩ = some (.slice (some ⟨r, 0, none⟩) n n)) (hrow : Rates.Row w r 0 n T W) (hf : Fits n W) :
    Calls Try.prog 7 #[.pointer (some ⟨p, 0, none⟩)] w fun e w' => ∃ g, e = .returned (.agg #[.int .u32 (T 0), .float .f64 (Fl.secs (W 0)), .int .i64 0, .slice (some ⟨g, 0, none⟩) n n]) ∧ Below w.heap.size w w' ∧ FRow w' g n T W := by
  obtain ⟨i0, hi0, hz0, hz1, hz2⟩ := info_parts info34
  have hpl : p < w.heap.size := World.block_lt_of_cell? _ _ hp
  have r0 := (hrow 0 (by omega)).1
  have r1 := (hrow 0 (by omega)).2
  simp only [Nat.zero_add, Nat.zero_mul] at r0 r1
  have hrl : r < w.heap.size := World.block_lt_of_cell? _ _ r0
  have hW := hf 0 (by omega)
  have HF : Hid (Fits n W) := hf
  have HRW : Hid (Rates.Row w r 0 n T W) := hrow
  clear hf hrow
  go_enter Try.func7, Try.ntmps7
  go_wp2_with fail
  refine (Leaf.shown_any (T 0) (W 0) _ hW.1 hW.2).mono ?_
  rintro e w1 ⟨rfl, hb1⟩
  obtain ⟨hc, hfz⟩ := bcell hb1
  have hz : w.heap.size < w1.heap.size := by have := hb1.size; simp at this; omega
  have z0 : w1.cell? ⟨w.heap.size, 0, none⟩ = some (.int .u32 0) := by rw [hc _ _ (by simp)]; simp
  have z1 : w1.cell? ⟨w.heap.size, 1, none⟩ = some (.float .f64 0) := by rw [hc _ _ (by simp)]; simp
  have z2 : w1.cell? ⟨w.heap.size, 2, none⟩ = some (.int .i64 0) := by rw [hc _ _ (by simp)]; simp
  have z3 : w1.cell? ⟨w.heap.size, 3, none⟩ = some (.slice none 0 0) := by rw [hc _ _ (by simp)]; simp
  have zf : ∀ o, w1.frozen? ⟨w.heap.size, o, none⟩ = false := fun o => by rw [hfz _ _ (by simp)]; simp
  have hp1 : w1.cell? ⟨p, 1, none⟩ = some (.slice (some ⟨r, 0, none⟩) n n) := by rw [hc _ _ (by simp; omega), World.cell?_alloc_old _ _ _ (by simp; omega)]; exact hp
  have hb2 : Below w.heap.size w w1 := ((Below.refl _ w).alloc (Nat.le_refl _) _).trans (hb1.mono (by simp))
  clear hc hfz hb1 hp r0 r1
  have hpl1 : p < w1.heap.size := by omega
  go_wp2_with (first
    | (at_make; refine wpList_make_full _ rfl _ _ 35 rfl w.heap.size 34 i0 (.agg #[.int .u32 0, .float .f64 0]) 2 Try.underlying35 hi0 hz0 hz1 .i64 .i64 _ _ n rfl rfl rfl rfl (by rw [hz2]; omega) (by unfold maxLen; omega) (by simp; omega) ?_; intro w2 hown2 hgrow2; have I2 := Inv.made hb2 hz z0 z1 z2 z3 zf hgrow2; have hb3 : Below w1.heap.size w1 w2 := ((Below.refl _ w1).alloc (Nat.le_refl _) _).trans ((World.grownBy.below_none hgrow2).mono (by simp)); have hp2 := cell_later hb3 hp1; have x3 := I2.s3; have x3f := I2.sf; clear hgrow2 hb2 z0 z1 z2 z3 zf hp1 hz hpl1 hb3; have hpne : ¬ p = w1.heap.size := by have := I2.old; omega))
  have I3 := I2.header (.slice (some ⟨w1.heap.size + 1, 0, none⟩) n n)
  have P3 : Part w (w2.setCell ⟨w1.heap.size, 3, none⟩ (.slice (some ⟨w1.heap.size + 1, 0, none⟩) n n)) (w1.heap.size + 1) n 0 T W := by
    have e : (w1.alloc (Obj.cells #[Value.int .u32 (T 0), .float .f64 (Fl.secs (W 0)), .int .i64 0, .slice none 0 0] 37)).heap.size = w1.heap.size + 1 := by simp
    rw [e] at hown2
    exact ⟨_, hown2.kept (row := some w1.heap.size) ⟨rfl, rfl, rfl, by simp, fun k _ hk => Below.heap_setCell _ _ _ _ (fun e => hk (by simp [e]))⟩ (.inr (by simp [Value.ownBlock])), fun j hj => absurd hj (Nat.not_lt_zero _)⟩
  clear I2 hp2 x3 x3f hown2
  generalize w1.heap.size = Bs at *
  go_loopw [32] (fun i wr => ∃ k : Nat, k ≤ n ∧ i = .int .i64 k ∧ Hid (Part w wr (Bs + 1) n k T W) ∧ Hid (Inv w Bs (T 0) (Fl.secs (W 0)) (.slice (some ⟨Bs + 1, 0, none⟩) n n) wr)) (fun i _ => n - (intOf i).toNat)
  case atStart => exact ⟨0, Nat.zero_le _, rfl, P3, I3⟩
  case round =>
    clear I3 P3
    obtain ⟨k, hk, rfl, HP, HI⟩ := hrel
    by_cases hlt : k < n
    · obtain ⟨xs, ho, hx⟩ := HP.out
      have hlen : xs.length = n * 2 := ho.1
      have hrk := (HRW.out.below HI.out.bel) k hlt
      have c1 := hrk.1
      have c2 := hrk.2
      simp only [Nat.zero_add] at c1 c2
      have hWk := HF.out k hlt
      have e1 := ho.cellAt (k * 2) (by omega)
      have e2 := ho.cellAt (k * 2 + 1) (by omega)
      rw [List.getElem?_eq_getElem (by omega)] at e1 e2
      have f1 := ho.frozenAt (k * 2)
      have f2 := ho.frozenAt (k * 2 + 1)
      generalize xs[k * 2] = y1 at e1
      generalize xs[k * 2 + 1] = y2 at e2
      have x3 := HI.out.s3
      have xlt := HI.out.lts
      have glt : Bs + 1 < wr.heap.size := World.block_lt_of_cell? _ _ e1
      have rlt : r < wr.heap.size := World.block_lt_of_cell? _ _ c1
      clear ho hx hrk hlen
      go_wp2_with fail
      go_region_with (go_at_call 11; refine (Leaf.shown_any (T k) (W k) _ hWk.1 hWk.2).mono ?_; rintro e w3 ⟨rfl, hb3⟩; have hb4 : Below wr.heap.size wr w3 := (by first | exact ((Below.refl _ wr).alloc (Nat.le_refl _) _).drew.trans (hb3.mono (by simp)) | exact ((Below.refl _ wr).alloc (Nat.le_refl _) _).trans (hb3.mono (by simp))); have q3 := cell_later hb4 x3; have q1 := cell_later hb4 e1; have q2 := cell_later hb4 e2; have g1 : w3.frozen? ⟨Bs + 1, k * 2, none⟩ = false := (hb4.frozen (p := ⟨Bs + 1, k * 2, none⟩) glt).trans f1; have g2 : w3.frozen? ⟨Bs + 1, k * 2 + 1, none⟩ = false := (hb4.frozen (p := ⟨Bs + 1, k * 2 + 1, none⟩) glt).trans f2; have qs : Bs + 1 < w3.heap.size := Nat.lt_of_lt_of_le glt hb4.size; clear hb3)
      all_goals
        go_wp2
        exact ⟨⟨k + 1, by omega, by go_num, (HP.out.below hb4).step hlt, ((HI.out.below hb4).store (Bs + 1) (k * 2) _ (by omega)).store (Bs + 1) (k * 2 + 1) _ (by omega)⟩, by simp [intOf]; omega⟩
    · have s0 := HI.out.s0
      have s1 := HI.out.s1
      have s2 := HI.out.s2
      have s3 := HI.out.s3
      have z0 := HI.out.z0
      have z1 := HI.out.z1
      have z2 := HI.out.z2
      have z3 := HI.out.z3
      have zf := HI.out.zf
      have old := HI.out.old
      go_wp2
      have I4 := HI.out.bel
      obtain rfl : k = n := by omega
      have R4 := HP.out.row
      refine bodyPost_ret (v := .agg #[.int .u32 (T 0), .float .f64 (Fl.secs (W 0)), .int .i64 0, .slice (some ⟨Bs + 1, 0, none⟩) k k]) (by simp [results, Try.results7, go_sem, z0, z1, z2, z3]) rfl ⟨Bs + 1, rfl, ?_, ?_⟩
      · exact (((I4.setCell (Nat.le_refl _) _).setCell (Nat.le_refl _) _).setCell (Nat.le_refl _) _).setCell (Nat.le_refl _) _
      · intro j hj
        have a := R4 j hj
        have hne : ∀ o o', (⟨w.heap.size, o, none⟩ : Addr) ≠ ⟨Bs + 1, o', none⟩ := fun o o' e => by have := congrArg Addr.block e; simp only at this; omega
        constructor
        · rw [World.cell?_setCell_other _ _ _ _ (hne _ _), World.cell?_setCell_other _ _ _ _ (hne _ _), World.cell?_setCell_other _ _ _ _ (hne _ _), World.cell?_setCell_other _ _ _ _ (hne _ _)]; exact a.1
        · rw [World.cell?_setCell_other _ _ _ _ (hne _ _), World.cell?_setCell_other _ _ _ _ (hne _ _), World.cell?_setCell_other _ _ _ _ (hne _ _), World.cell?_setCell_other _ _ _ _ (hne _ _)]; exact a.2
end Go.Proofs.Qxb6628611a.Shown
