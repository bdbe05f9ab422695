/-
  THE WALK OF 'FnShownAgreesWithEachRateAlone' (3).
-/
import Derived.Test.Qxb6628611aSame
import Derived.BigQuiet
import Derived.Deep.QuietTactic
namespace Go.Proofs.Qxb6628611a.Agree
open Go.RowKit
set_option linter.unusedSimpArgs false
set_option linter.unusedVariables false
attribute [local go_sem] Leaf.run_store_float Same.run_equalIn_float

/-- WHAT THE WALKS ARE TOLD OF THE RATES. -/
def Pairs (w : World) (a : Option Addr) (len cap : Nat) (T W : Nat → Int) : Prop :=
  len ≤ cap ∧ (len = 0 ∨ ∃ b off, a = some ⟨b, off, none⟩ ∧ Rates.Row w b off len T W ∧ Shown.Fits len W)

/-- pb1Rates of one rate. -/
theorem rates_one (b off cap : Nat) (t v : Int) (w : World) (c1 : w.cell? ⟨b, off, none⟩ = some (.int .u32 t)) (c2 : w.cell? ⟨b, off + 1, none⟩ = some (.int .i64 v)) :
    Calls Try.prog 6 #[.slice (some ⟨b, off, none⟩) 1 cap] w fun e w' => e = .returned (.slice (some ⟨w.heap.size, 0, none⟩) 1 1) ∧ Below w.heap.size w w' ∧ w'.cell? ⟨w.heap.size, 0, none⟩ = some (.int .u32 t) ∧ w'.cell? ⟨w.heap.size, 1, none⟩ = some (.int .i64 v) := by
  refine (Rates.rates_any b off 1 cap (fun _ => t) (fun _ => v) w (by omega) ?_).mono ?_
  · intro j hj
    obtain rfl : j = 0 := by omega
    exact ⟨by simpa using c1, by simpa using c2⟩
  · rintro e w' ⟨rfl, hb, hr⟩
    have a := hr 0 (by omega)
    exact ⟨rfl, hb, by simpa using a.1, by simpa using a.2⟩

/-- Shown of a limit of one rate. -/
theorem shown_one (p r : Nat) (t v : Int) (w : World) (hp : w.cell? ⟨p, 1, none⟩ = some (.slice (some ⟨r, 0, none⟩) 1 1)) (c1 : w.cell? ⟨r, 0, none⟩ = some (.int .u32 t)) (c2 : w.cell? ⟨r, 1, none⟩ = some (.int .i64 v))
    (h0 : -9223372036854775808 ≤ v) (h1 : v ≤ 9223372036854775807) :
    Calls Try.prog 7 #[.pointer (some ⟨p, 0, none⟩)] w fun e w' => e = .returned (.agg #[.int .u32 t, .float .f64 (Fl.secs v), .int .i64 0, .slice none 0 0]) ∧ Below w.heap.size w w' := by
  refine Shown.shown_one p r (fun _ => t) (fun _ => v) w hp ?_ (fun _ _ => ⟨h0, h1⟩)
  intro j hj
  obtain rfl : j = 0 := by omega
  exact ⟨by simpa using c1, by simpa using c2⟩

theorem shown_single (p r n : Nat) (T W : Nat → Int) (w : World) (hn : n = 1) (hp : w.cell? ⟨p, 1, none⟩ = some (.slice (some ⟨r, 0, none⟩) n n)) (hrow : Rates.Row w r 0 n T W) (hf : Shown.Fits n W) :
    Calls Try.prog 7 #[.pointer (some ⟨p, 0, none⟩)] w fun e w' => e = .returned (.agg #[.int .u32 (T 0), .float .f64 (Fl.secs (W 0)), .int .i64 0, .slice none 0 0]) ∧ Below w.heap.size w w' := by
  subst hn
  exact Shown.shown_one p r T W w hp hrow hf

theorem Below.undrew {B : Nat} {w w' : World} (h : Below B w.drew w') : Below B w w' := ⟨h.os, h.tape, h.output, h.size, h.block⟩

/-- What stands through the loop: 'got', and the list that it leads to. -/
structure Got (w : World) (Gt : Nat) (t : Int) (f : Nat) (sl : Value) (wr : World) : Prop where
  bel : Below w.heap.size w wr
  g0 : wr.cell? ⟨Gt, 0, none⟩ = some (.int .u32 t)
  g1 : wr.cell? ⟨Gt, 1, none⟩ = some (.float .f64 f)
  g3 : wr.cell? ⟨Gt, 3, none⟩ = some sl

theorem Got.below {w wr w3 : World} {Gt f : Nat} {t : Int} {sl : Value} (h : Got w Gt t f sl wr) (hb : Below wr.heap.size wr w3) : Got w Gt t f sl w3 :=
  ⟨h.bel.trans (hb.mono h.bel.size), cell_later hb h.g0, cell_later hb h.g1, cell_later hb h.g3⟩

set_option maxHeartbeats 4000000 in
set_option maxRecDepth 100000 in
theorem walk (s : ByteArray) (a1 : Option Addr) (len1 cap1 : Nat) (T W : Nat → Int) (a2 : Option Addr) (len2 cap2 : Nat) (ss : Nat → ByteArray) (w : World)
    (hp : Pairs w a1 len1 cap1 T W) (hs : Same.Strs w a2 len2 ss) :
    Calls Try.prog 3 #[.string s, .slice a1 len1 cap1, .slice a2 len2 cap2] w fun e w' => e = .returned (.bool true) ∧ Below w.heap.size w w' := by
  have HS : Hid (Same.Strs w a2 len2 ss) := hs
  have HP : Hid (Pairs w a1 len1 cap1 T W) := hp
  clear hs hp
  go_enter Try.func3, Try.ntmps3
  go_wp2_with fail
  refine (Same.bytes5 s a1 len1 cap1 a2 len2 cap2 ss w HS.out).mono ?_
  rintro e w' ⟨⟨b, rfl⟩, rfl⟩
  cases b with
  | false =>
    go_wp2
    go_ret
    exact ⟨rfl, Below.refl _ _⟩
  | true =>
    by_cases h1 : s.size ≤ 1048576
    · by_cases h2 : len1 ≤ 65536
      · by_cases h3 : len2 ≤ 65536
        · have d1 : decide (1048576 < (s.size : Int)) = false := decide_eq_false (by omega)
          have d2 : decide (65536 < (len1 : Int)) = false := decide_eq_false (by omega)
          have d3 : decide (65536 < (len2 : Int)) = false := decide_eq_false (by omega)
          go_wp2
          go_loop [7, 8] (fun zz i => ∃ (k : Nat) (z : Int), k ≤ len2 ∧ i = .int .i64 k ∧ zz = .int .i64 z) (fun _ i => len2 - (intOf i).toNat)
          case atStart => exact ⟨0, _, Nat.zero_le _, rfl, rfl⟩
          case round =>
            obtain ⟨k, z, hk, rfl, rfl⟩ := hrel
            by_cases hlt : k < len2
            · rcases HS.out with h0 | ⟨b, off, rfl, hc⟩
              · omega
              · have c := hc k hlt
                clear hc
                by_cases hz : z ≤ 1048576
                · go_wp2
                  exact ⟨⟨k + 1, _, by omega, by go_num, rfl⟩, by simp [intOf]; omega⟩
                · go_wp2
                  go_ret
                  exact ⟨rfl, Below.refl _ _⟩
            · by_cases hz : z ≤ 1048576
              · by_cases hl : len1 = 0
                · have hl' : ((len1 : Int) == 0) = true := beq_iff_eq.2 (by omega)
                  clear hl
                  go_wp2
                  go_ret
                  exact ⟨rfl, Below.refl _ _⟩
                · have hl' : ((len1 : Int) == 0) = false := beq_eq_false_iff_ne.2 (by omega)
                  have dz : decide (1048576 < z) = false := decide_eq_false (by omega)
                  obtain ⟨hcap, hpr⟩ := HP.out
                  rcases hpr with h0 | ⟨b, off, rfl, hrow, hfit⟩
                  · omega
                  have HR : Hid (Rates.Row w b off len1 T W) := hrow
                  have HF : Hid (Shown.Fits len1 W) := hfit
                  clear hrow hfit HP
                  go_wp2_with fail
                  refine (Rates.rates_any b off len1 cap1 T W w h2 HR.out).mono ?_
                  rintro e w1 ⟨rfl, hb1, hr1⟩
                  have HR1 : Hid (Rates.Row w1 w.heap.size 0 len1 T W) := hr1
                  clear hr1
                  by_cases hn1 : len1 = 1
                  · have n1 : ((len1 : Int) == 1) = true := beq_iff_eq.2 (by omega)
                    have n2 : decide ((1 : Int) < (len1 : Int)) = false := decide_eq_false (by omega)
                    have HN : Hid (len1 = 1) := hn1
                    clear hn1
                    go_wp2_with fail
                    refine (shown_single w1.heap.size w.heap.size len1 T W _ HN.out (by simp) (HR1.out.below ((Below.refl _ w1).alloc (Nat.le_refl _) _)) HF.out).mono ?_
                    rintro e w2 ⟨rfl, hb2⟩
                    have hbw : Below w.heap.size w w2 := hb1.trans ((((Below.refl _ w1).alloc (Nat.le_refl _) _).trans (hb2.mono (by simp))).mono hb1.size)
                    clear hb2 HR1 hb1
                    go_wp2
                    go_loopw [12] (fun i wr => ∃ k : Nat, k ≤ len1 ∧ i = .int .i64 k ∧ Hid (Got w w2.heap.size (T 0) (Fl.secs (W 0)) (.slice none 0 0) wr)) (fun i _ => len1 - (intOf i).toNat)
                    case atStart => exact ⟨0, Nat.zero_le _, rfl, ⟨hbw.alloc hbw.size _, by simp, by simp, by simp⟩⟩
                    case round =>
                      clear hbw
                      obtain ⟨k, hk, rfl, HG⟩ := hrel
                      by_cases hlt : k < len1
                      · have hck : ¬ cap1 = k := by omega
                        have hrk := (HR.out.below HG.out.bel) k hlt
                        have c1 := hrk.1
                        have c2 := hrk.2
                        have hWk := HF.out k hlt
                        clear hrk
                        go_wp2_with fail
                        refine (rates_one b (off + k * 2) (cap1 - k) (T k) (W k) wr c1 c2).mono ?_
                        rintro e w4 ⟨rfl, hb4, r1, r2⟩
                        go_wp2_with fail
                        refine (shown_one w4.heap.size wr.heap.size (T k) (W k) _ (by simp) (cell_later ((Below.refl _ w4).alloc (Nat.le_refl _) _) r1) (cell_later ((Below.refl _ w4).alloc (Nat.le_refl _) _) r2) hWk.1 hWk.2).mono ?_
                        rintro e w5 ⟨rfl, hb5⟩
                        have hb6 : Below wr.heap.size wr w5 := hb4.trans ((((Below.refl _ w4).alloc (Nat.le_refl _) _).trans (hb5.mono (by simp))).mono hb4.size)
                        have b1 := cell_later hb6 c1
                        have b2 := cell_later hb6 c2
                        have bl : b < w5.heap.size := World.block_lt_of_cell? _ _ b1
                        clear hb4 hb5 r1 r2 c1 c2
                        have sel := Fixed.self_eq (W k) hWk.1 hWk.2
                        have se2 : (FloatKind.f64.format.order (Fl.secs (W k)) (Fl.secs (W k)) == some .eq) = true := by rw [sel]; rfl
                        have st := Same.stood
                        have key : (((k : Int) == 0) = true ∧ (T 0 == T k) = true ∧ (FloatKind.f64.format.order (Fl.secs (W 0)) (Fl.secs (W k)) == some .eq) = true) ∨ ((k : Int) == 0) = false := by
                          by_cases hk0 : k = 0
                          · subst hk0
                            exact .inl ⟨rfl, beq_self_eq_true _, se2⟩
                          · exact .inr (beq_eq_false_iff_ne.2 (by omega))
                        have KEY : Hid (_ ∨ _) := key
                        clear key
                        clear sel
                        go_wp2_with fail
                        go_region_with (go_at_call 8; refine (Fixed.fixed_any (T k) (W k) _ hWk.1 hWk.2).mono ?_; rintro e w6 ⟨rfl, hb7⟩; have hb8 : Below (w5.alloc (.cells #[.int .u32 (T k), .float .f64 (Fl.secs (W k)), .int .i64 0, .slice none 0 0] 37)).heap.size (w5.alloc (.cells #[.int .u32 (T k), .float .f64 (Fl.secs (W k)), .int .i64 0, .slice none 0 0] 37)) w6 := (by first | exact Below.undrew hb7 | exact hb7); have hb9 : Below w5.heap.size w5 w6 := ((Below.refl _ w5).alloc (Nat.le_refl _) _).trans (hb8.mono (by simp)); have hb10 : Below wr.heap.size wr w6 := hb6.trans (hb9.mono hb6.size); have t0 : w6.cell? ⟨w5.heap.size, 0, none⟩ = some (.int .u32 (T k)) := cell_later hb8 (by simp); have t1 : w6.cell? ⟨w5.heap.size, 1, none⟩ = some (.float .f64 (Fl.secs (W k))) := cell_later hb8 (by simp); have y0 := cell_later hb10 HG.out.g0; have y1 := cell_later hb10 HG.out.g1; have y3 := cell_later hb10 HG.out.g3; clear hb7 hb8 hb9)
                        all_goals
                          rcases KEY.out with ⟨k1, k2, k3⟩ | k1
                        all_goals
                          go_wp2_with fail
                          go_quiet (fail)
                          go_wp2
                          exact ⟨⟨k + 1, by omega, by go_num, HG.out.below (below_drewN hb10 nq)⟩, by simp [intOf]; omega⟩
                      · go_wp2
                        go_ret
                        exact ⟨rfl, HG.out.bel⟩
                  · have n1 : ((len1 : Int) == 1) = false := beq_eq_false_iff_ne.2 (by omega)
                    have n2 : (1 : Int) < (len1 : Int) := by omega
                    go_wp2_with fail
                    refine (Shown.shown_many w1.heap.size w.heap.size len1 T W _ (by omega) h2 (by simp) (HR1.out.below ((Below.refl _ w1).alloc (Nat.le_refl _) _)) HF.out).mono ?_
                    rintro e w2 ⟨g, rfl, hb2, hF⟩
                    have hbw : Below w.heap.size w w2 := hb1.trans ((((Below.refl _ w1).alloc (Nat.le_refl _) _).trans (hb2.mono (by simp))).mono hb1.size)
                    have HFR : Hid (Shown.FRow w2 g len1 T W) := hF
                    clear hF hb2 HR1 hb1
                    go_wp2
                    go_loopw [12] (fun i wr => ∃ k : Nat, k ≤ len1 ∧ i = .int .i64 k ∧ Hid (Got w w2.heap.size (T 0) (Fl.secs (W 0)) (.slice (some ⟨g, 0, none⟩) len1 len1) wr) ∧ Hid (Shown.FRow wr g len1 T W)) (fun i _ => len1 - (intOf i).toNat)
                    case atStart => exact ⟨0, Nat.zero_le _, rfl, ⟨hbw.alloc hbw.size _, by simp, by simp, by simp⟩, HFR.out.below ((Below.refl _ w2).alloc (Nat.le_refl _) _)⟩
                    case round =>
                      clear hbw HFR
                      obtain ⟨k, hk, rfl, HG, HFR⟩ := hrel
                      by_cases hlt : k < len1
                      · have hck : ¬ cap1 = k := by omega
                        have hrk := (HR.out.below HG.out.bel) k hlt
                        have c1 := hrk.1
                        have c2 := hrk.2
                        have hWk := HF.out k hlt
                        have hfk := HFR.out k hlt
                        clear hrk
                        go_wp2_with fail
                        refine (rates_one b (off + k * 2) (cap1 - k) (T k) (W k) wr c1 c2).mono ?_
                        rintro e w4 ⟨rfl, hb4, r1, r2⟩
                        go_wp2_with fail
                        refine (shown_one w4.heap.size wr.heap.size (T k) (W k) _ (by simp) (cell_later ((Below.refl _ w4).alloc (Nat.le_refl _) _) r1) (cell_later ((Below.refl _ w4).alloc (Nat.le_refl _) _) r2) hWk.1 hWk.2).mono ?_
                        rintro e w5 ⟨rfl, hb5⟩
                        have hb6 : Below wr.heap.size wr w5 := hb4.trans ((((Below.refl _ w4).alloc (Nat.le_refl _) _).trans (hb5.mono (by simp))).mono hb4.size)
                        have b1 := cell_later hb6 c1
                        have b2 := cell_later hb6 c2
                        have bl : b < w5.heap.size := World.block_lt_of_cell? _ _ b1
                        clear hb4 hb5 r1 r2 c1 c2
                        have sel := Fixed.self_eq (W k) hWk.1 hWk.2
                        have se2 : (FloatKind.f64.format.order (Fl.secs (W k)) (Fl.secs (W k)) == some .eq) = true := by rw [sel]; rfl
                        have st := Same.stood
                        have key : (((k : Int) == 0) = true ∧ (T 0 == T k) = true ∧ (FloatKind.f64.format.order (Fl.secs (W 0)) (Fl.secs (W k)) == some .eq) = true) ∨ ((k : Int) == 0) = false := by
                          by_cases hk0 : k = 0
                          · subst hk0
                            exact .inl ⟨rfl, beq_self_eq_true _, se2⟩
                          · exact .inr (beq_eq_false_iff_ne.2 (by omega))
                        have KEY : Hid (_ ∨ _) := key
                        clear key
                        clear sel
                        go_wp2_with fail
                        go_region_with (go_at_call 8; refine (Fixed.fixed_any (T k) (W k) _ hWk.1 hWk.2).mono ?_; rintro e w6 ⟨rfl, hb7⟩; have hb8 : Below (w5.alloc (.cells #[.int .u32 (T k), .float .f64 (Fl.secs (W k)), .int .i64 0, .slice none 0 0] 37)).heap.size (w5.alloc (.cells #[.int .u32 (T k), .float .f64 (Fl.secs (W k)), .int .i64 0, .slice none 0 0] 37)) w6 := (by first | exact Below.undrew hb7 | exact hb7); have hb9 : Below w5.heap.size w5 w6 := ((Below.refl _ w5).alloc (Nat.le_refl _) _).trans (hb8.mono (by simp)); have hb10 : Below wr.heap.size wr w6 := hb6.trans (hb9.mono hb6.size); have t0 : w6.cell? ⟨w5.heap.size, 0, none⟩ = some (.int .u32 (T k)) := cell_later hb8 (by simp); have t1 : w6.cell? ⟨w5.heap.size, 1, none⟩ = some (.float .f64 (Fl.secs (W k))) := cell_later hb8 (by simp); have y0 := cell_later hb10 HG.out.g0; have y1 := cell_later hb10 HG.out.g1; have y3 := cell_later hb10 HG.out.g3; have z0 := cell_later hb10 hfk.1; have z1 := cell_later hb10 hfk.2; clear hb7 hb8 hb9)
                        all_goals
                          rcases KEY.out with ⟨k1, k2, k3⟩ | k1
                        all_goals
                          go_wp2_with fail
                          go_quiet (fail)
                          go_wp2
                          exact ⟨⟨k + 1, by omega, by go_num, HG.out.below (below_drewN hb10 nq), HFR.out.below (below_drewN hb10 nq)⟩, by simp [intOf]; omega⟩
                      · go_wp2
                        go_ret
                        exact ⟨rfl, HG.out.bel⟩
              · go_wp2
                go_ret
                exact ⟨rfl, Below.refl _ _⟩
        · go_wp2
          go_ret
          exact ⟨rfl, Below.refl _ _⟩
      · go_wp2
        go_ret
        exact ⟨rfl, Below.refl _ _⟩
    · go_wp2
      go_ret
      exact ⟨rfl, Below.refl _ _⟩
end Go.Proofs.Qxb6628611a.Agree
