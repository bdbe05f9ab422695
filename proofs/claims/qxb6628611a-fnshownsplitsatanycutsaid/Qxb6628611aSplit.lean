/-
  THE WALK OF 'FnShownSplitsAtAnyCut' (4).
-/
import Derived.Test.Qxb6628611aList
import Derived.BigQuiet
import Derived.Deep.QuietTactic
namespace Go.Proofs.Qxb6628611a.Split
open Go.RowKit
set_option linter.unusedSimpArgs false
set_option linter.unusedVariables false
attribute [local go_sem] Leaf.run_store_float Same.run_equalIn_float

/-- A shown limit in a block of its own. -/
structure Blk (wr : World) (B : Nat) (t : Int) (f : Nat) (a : Option Addr) (l c : Nat) : Prop where
  c0 : wr.cell? ⟨B, 0, none⟩ = some (.int .u32 t)
  c1 : wr.cell? ⟨B, 1, none⟩ = some (.float .f64 f)
  c2 : wr.cell? ⟨B, 2, none⟩ = some (.int .i64 0)
  c3 : wr.cell? ⟨B, 3, none⟩ = some (.slice a l c)

theorem Blk.below {wr w3 : World} {B f : Nat} {t : Int} {a : Option Addr} {l c : Nat} (h : Blk wr B t f a l c) (hb : Below wr.heap.size wr w3) : Blk w3 B t f a l c :=
  ⟨cell_later hb h.c0, cell_later hb h.c1, cell_later hb h.c2, cell_later hb h.c3⟩

theorem Blk.made (w : World) (t : Int) (f : Nat) (a : Option Addr) (l c : Nat) : Blk (w.alloc (.cells #[.int .u32 t, .float .f64 f, .int .i64 0, .slice a l c] 37)) w.heap.size t f a l c :=
  ⟨by simp, by simp, by simp, by simp⟩

theorem alloc_below (w : World) (o : Obj) : Below w.heap.size w (w.alloc o) := (Below.refl _ w).alloc (Nat.le_refl _) _

theorem Below.then {w w1 w2 : World} (h : Below w.heap.size w w1) (k : Below w1.heap.size w1 w2) : Below w.heap.size w w2 := h.trans (k.mono h.size)

theorem Row.cut {w : World} {b off n cut : Nat} {T W : Nat → Int} (h : Rates.Row w b off n T W) (hc : cut ≤ n) : Rates.Row w b off cut T W := fun j hj => h j (by omega)

theorem Row.rest {w : World} {b off n cut : Nat} {T W : Nat → Int} (h : Rates.Row w b off n T W) (hc : cut ≤ n) : Rates.Row w b (off + cut * 2) (n - cut) (fun j => T (cut + j)) (fun j => W (cut + j)) := by
  intro j hj
  have a := h (cut + j) (by omega)
  rw [show off + (cut + j) * 2 = off + cut * 2 + j * 2 by omega] at a
  exact a

set_option maxHeartbeats 4000000 in
set_option maxRecDepth 100000 in
theorem walk_main (s : ByteArray) (b off n cap1 : Nat) (T W : Nat → Int) (a2 : Option Addr) (len2 cap2 : Nat) (ss : Nat → ByteArray) (cut : Nat) (w : World)
    (hcap : n ≤ cap1) (hr : Rates.Row w b off n T W) (hf : Shown.Fits n W) (hs : Same.Strs w a2 len2 ss) (hc1 : 1 ≤ cut) (hc2 : cut < n) :
    Calls Try.prog 4 #[.string s, .slice (some ⟨b, off, none⟩) n cap1, .slice a2 len2 cap2, .int .i64 cut] w fun e w' => e = .returned (.bool true) ∧ Below w.heap.size w w' := by
  have HS : Hid (Same.Strs w a2 len2 ss) := hs
  have HR : Hid (Rates.Row w b off n T W) := hr
  have HF : Hid (Shown.Fits n W) := hf
  clear hs hr hf
  go_enter Try.func4, Try.ntmps4
  go_wp2_with fail
  refine (Same.bytes9 s _ n cap1 a2 len2 cap2 ss _ w HS.out).mono ?_
  rintro e w' ⟨⟨bb, rfl⟩, rfl⟩
  cases bb with
  | false =>
    go_wp2
    go_ret
    exact ⟨rfl, Below.refl _ _⟩
  | true =>
    by_cases h1 : s.size ≤ 1048576
    · by_cases h2 : n ≤ 65536
      · by_cases h3 : len2 ≤ 65536
        · have d1 : decide (1048576 < (s.size : Int)) = false := decide_eq_false (by omega)
          have d2 : decide (65536 < (n : Int)) = false := decide_eq_false (by omega)
          have d3 : decide (65536 < (len2 : Int)) = false := decide_eq_false (by omega)
          go_wp2
          go_loop [9, 10] (fun zz i => ∃ (k : Nat) (z : Int), k ≤ len2 ∧ i = .int .i64 k ∧ zz = .int .i64 z) (fun _ i => len2 - (intOf i).toNat)
          case atStart => exact ⟨0, _, Nat.zero_le _, rfl, rfl⟩
          case round =>
            obtain ⟨k, z, hk, rfl, rfl⟩ := hrel
            by_cases hlt : k < len2
            · rcases HS.out with h0 | ⟨b, off, rfl, hc⟩
              · omega
              · have c := hc k hlt
                clear hc
                by_cases hz : z ≤ 1048576
                · go_wp2
                  exact ⟨⟨k + 1, _, by omega, by go_num, rfl⟩, by simp [intOf]; omega⟩
                · go_wp2
                  go_ret
                  exact ⟨rfl, Below.refl _ _⟩
            · by_cases hz : z ≤ 1048576
              · have dz : decide (1048576 < z) = false := decide_eq_false (by omega)
                have dc1 : decide ((cut : Int) < 1) = false := decide_eq_false (by omega)
                have dc2 : decide ((n : Int) ≤ (cut : Int)) = false := decide_eq_false (by omega)
                have dc3 : decide (n ≤ cut) = false := decide_eq_false (by omega)
                have hck : ¬ cap1 = cut := by omega
                go_wp2_with fail
                refine (Rates.rates_any b off n cap1 T W w h2 HR.out).mono ?_
                rintro e w1 ⟨rfl, hb1, hr1⟩
                go_wp2_with fail
                refine (Lst.shown_all w1.heap.size w.heap.size n T W _ (by omega) h2 (by simp) (hr1.below (alloc_below _ _)) HF.out).mono ?_
                rintro e w2 ⟨aw, lw, cw, rfl, hb2, L2⟩
                have B2 : Below w.heap.size w w2 := Below.then hb1 (Below.then (alloc_below _ _) hb2)
                have M2 := Blk.made w2 (T 0) (Fl.secs (W 0)) aw lw cw
                have L2' : Hid (Lst.IsList (w2.alloc (.cells #[.int .u32 (T 0), .float .f64 (Fl.secs (W 0)), .int .i64 0, .slice aw lw cw] 37)) aw lw cw n T W) := L2.below (alloc_below _ _)
                have B2' : Below w.heap.size w (w2.alloc (.cells #[.int .u32 (T 0), .float .f64 (Fl.secs (W 0)), .int .i64 0, .slice aw lw cw] 37)) := Below.then B2 (alloc_below _ _)
                have HM2 : Hid (Blk _ _ _ _ _ _ _) := M2
                have HB2 : Hid (Below _ _ _) := B2'
                clear hb1 hr1 hb2 L2 B2 M2 B2'
                go_wp2_with fail
                generalize w2.alloc (.cells #[.int .u32 (T 0), .float .f64 (Fl.secs (W 0)), .int .i64 0, .slice aw lw cw] 37) = wA at *
                generalize w2.heap.size = Bw at *
                refine (Rates.rates_any b off cut cap1 T W wA (by omega) (Row.cut (HR.out.below HB2.out) (by omega))).mono ?_
                rintro e w3 ⟨rfl, hb3, hr3⟩
                go_wp2_with fail
                refine (Lst.shown_all w3.heap.size wA.heap.size cut T W _ hc1 (by omega) (by simp) (hr3.below (alloc_below _ _)) (fun j hj => HF.out j (by omega))).mono ?_
                rintro e w4 ⟨ap, lp, cp, rfl, hb4, L4⟩
                have B4 : Below wA.heap.size wA (w4.alloc (.cells #[.int .u32 (T 0), .float .f64 (Fl.secs (W 0)), .int .i64 0, .slice ap lp cp] 37)) := Below.then hb3 (Below.then (alloc_below _ _) (Below.then hb4 (alloc_below _ _)))
                have HM4 : Hid (Blk _ _ _ _ _ _ _) := Blk.made w4 (T 0) (Fl.secs (W 0)) ap lp cp
                have L4' : Hid (Lst.IsList (w4.alloc (.cells #[.int .u32 (T 0), .float .f64 (Fl.secs (W 0)), .int .i64 0, .slice ap lp cp] 37)) ap lp cp cut T W) := L4.below (alloc_below _ _)
                have HM2b : Hid (Blk _ _ _ _ _ _ _) := HM2.out.below B4
                have L2b : Hid (Lst.IsList _ aw lw cw n T W) := L2'.out.below B4
                have HB4 : Hid (Below w.heap.size w _) := Below.then HB2.out B4
                clear hb3 hr3 hb4 L4 HM2 L2' HB2 B4
                go_wp2_with fail
                generalize w4.alloc (.cells #[.int .u32 (T 0), .float .f64 (Fl.secs (W 0)), .int .i64 0, .slice ap lp cp] 37) = wB at *
                generalize w4.heap.size = Bp at *
                refine (Rates.rates_any b (off + cut * 2) (n - cut) (cap1 - cut) (fun j => T (cut + j)) (fun j => W (cut + j)) wB (by omega) (Row.rest (HR.out.below HB4.out) (by omega))).mono ?_
                rintro e w5 ⟨rfl, hb5, hr5⟩
                go_wp2_with fail
                refine (Lst.shown_all w5.heap.size wB.heap.size (n - cut) (fun j => T (cut + j)) (fun j => W (cut + j)) _ (by omega) (by omega) (by simp) (hr5.below (alloc_below _ _)) (fun j hj => HF.out (cut + j) (by omega))).mono ?_
                rintro e w6 ⟨ax, lx, cx, rfl, hb6, L6⟩
                have B6 : Below wB.heap.size wB w6 := Below.then hb5 (Below.then (alloc_below _ _) hb6)
                have B6c : Below w6.heap.size w6 (w6.alloc (.cells #[.int .u32 (T cut), .float .f64 (Fl.secs (W cut)), .int .i64 0, .slice ax lx cx] 37)) := alloc_below _ _
                have HM6 : Hid (Blk _ _ _ _ _ _ _) := Blk.made w6 (T cut) (Fl.secs (W cut)) ax lx cx
                have L6' : Hid (Lst.IsList (w6.alloc (.cells #[.int .u32 (T cut), .float .f64 (Fl.secs (W cut)), .int .i64 0, .slice ax lx cx] 37)) ax lx cx (n - cut) (fun j => T (cut + j)) (fun j => W (cut + j))) := L6.below B6c
                have L2c : Hid (Lst.IsList (w6.alloc (.cells #[.int .u32 (T cut), .float .f64 (Fl.secs (W cut)), .int .i64 0, .slice ax lx cx] 37)) aw lw cw n T W) := (L2b.out.below B6).below B6c
                have L4c : Hid (Lst.IsList (w6.alloc (.cells #[.int .u32 (T cut), .float .f64 (Fl.secs (W cut)), .int .i64 0, .slice ax lx cx] 37)) ap lp cp cut T W) := (L4'.out.below B6).below B6c
                have HB6 : Hid (Below w.heap.size w (w6.alloc (.cells #[.int .u32 (T cut), .float .f64 (Fl.secs (W cut)), .int .i64 0, .slice ax lx cx] 37))) := Below.then (Below.then HB4.out B6) B6c
                have mw := HM2b.out.below B6
                have mp := HM4.out.below B6
                have mw0 := mw.c0
                have mw1 := mw.c1
                have mw2 := mw.c2
                have mw3 := mw.c3
                have mp0 := mp.c0
                have mp1 := mp.c1
                have mp2 := mp.c2
                have mp3 := mp.c3
                have ltw : Bw < w6.heap.size := World.block_lt_of_cell? _ _ mw0
                have ltp : Bp < w6.heap.size := World.block_lt_of_cell? _ _ mp0
                have HMw : Hid (Blk (w6.alloc (.cells #[.int .u32 (T cut), .float .f64 (Fl.secs (W cut)), .int .i64 0, .slice ax lx cx] 37)) Bw (T 0) (Fl.secs (W 0)) aw lw cw) := mw.below B6c
                have HMp : Hid (Blk (w6.alloc (.cells #[.int .u32 (T cut), .float .f64 (Fl.secs (W cut)), .int .i64 0, .slice ax lx cx] 37)) Bp (T 0) (Fl.secs (W 0)) ap lp cp) := mp.below B6c
                clear hb5 hr5 hb6 L6 HM2b HM4 L2b L4' HB4 B6 B6c mw mp
                go_wp2_with fail
                refine (Lst.list_any n T W aw lw cw _ L2c.out).mono ?_
                rintro e w7 ⟨gw, capw, rfl, hb7, F7⟩
                have HM6b : Hid (Blk _ _ _ _ _ _ _) := HM6.out.below hb7
                have HMwb : Hid (Blk _ _ _ _ _ _ _) := HMw.out.below hb7
                have HMpb : Hid (Blk _ _ _ _ _ _ _) := HMp.out.below hb7
                have L4d : Hid (Lst.IsList _ ap lp cp cut T W) := L4c.out.below hb7
                have L6d : Hid (Lst.IsList _ ax lx cx (n - cut) (fun j => T (cut + j)) (fun j => W (cut + j))) := L6'.out.below hb7
                have HB7 : Hid (Below w.heap.size w w7) := Below.then HB6.out hb7
                have HF7 : Hid (Shown.FRow w7 gw n T W) := F7
                clear F7 hb7 HM6 HMw HMp L4c L6' HB6 L2c mw0 mw1 mw2 mw3 mp0 mp1 mp2 mp3 ltw ltp
                have q0 := HMpb.out.c0
                have q1 := HMpb.out.c1
                have q2 := HMpb.out.c2
                have q3 := HMpb.out.c3
                go_wp2_with fail
                refine (Lst.list_any cut T W ap lp cp _ L4d.out).mono ?_
                rintro e w8 ⟨gp, capp, rfl, hb8, F8⟩
                have HM6c : Hid (Blk _ _ _ _ _ _ _) := HM6b.out.below hb8
                have HMwc : Hid (Blk _ _ _ _ _ _ _) := HMwb.out.below hb8
                have HMpc : Hid (Blk _ _ _ _ _ _ _) := HMpb.out.below hb8
                have L6e : Hid (Lst.IsList _ ax lx cx (n - cut) (fun j => T (cut + j)) (fun j => W (cut + j))) := L6d.out.below hb8
                have HB8 : Hid (Below w.heap.size w w8) := Below.then HB7.out hb8
                have HF8 : Hid (Shown.FRow w8 gp cut T W) := F8
                have HF7b : Hid (Shown.FRow w8 gw n T W) := HF7.out.below hb8
                clear F8 hb8 HM6b HMwb HMpb L4d L6d HB7 HF7 q0 q1 q2 q3
                have q0 := HM6c.out.c0
                have q1 := HM6c.out.c1
                have q2 := HM6c.out.c2
                have q3 := HM6c.out.c3
                have hlist := Lst.list_any (n - cut) (fun j => T (cut + j)) (fun j => W (cut + j)) ax lx cx w8 L6e.out
                simp only [Nat.add_zero] at hlist
                have HLI : Hid (Calls _ _ _ _ _) := hlist
                clear hlist
                go_wp2_with fail
                refine HLI.out.mono ?_
                rintro e w9 ⟨gs, caps, rfl, hb9, F9⟩
                have HMw : Hid (Blk _ _ _ _ _ _ _) := HMwc.out.below hb9
                have HMp : Hid (Blk _ _ _ _ _ _ _) := HMpc.out.below hb9
                have HB9 : Hid (Below w.heap.size w w9) := Below.then HB8.out hb9
                have HFs : Hid (Shown.FRow w9 gs (n - cut) (fun j => T (cut + j)) (fun j => W (cut + j))) := F9
                have HFp : Hid (Shown.FRow w9 gp cut T W) := HF8.out.below hb9
                have HFw : Hid (Shown.FRow w9 gw n T W) := HF7b.out.below hb9
                clear F9 hb9 HM6c HMwc HMpc L6e HB8 HF8 HF7b q0 q1 q2 q3 HLI
                have dnc : (((n - cut : Nat) : Int) != (n : Int) - (cut : Int)) = false := by
                  rw [bne_eq_false_iff_eq]; omega
                have hW0 := HF.out 0 (by omega)
                have se0 : (FloatKind.f64.format.order (Fl.secs (W 0)) (Fl.secs (W 0)) == some .eq) = true := by rw [Fixed.self_eq (W 0) hW0.1 hW0.2]; rfl
                clear hW0
                have st := Same.stood
                have q0 := HMw.out.c0
                have q1 := HMw.out.c1
                have p0 := HMp.out.c0
                have p1 := HMp.out.c1
                have r0 := (HFw.out 0 (by omega)).1
                have r1 := (HFw.out 0 (by omega)).2
                simp only [Nat.zero_mul, Nat.zero_add] at r0 r1
                have npos : (0 : Int) < (n : Int) := by omega
                go_wp2_with fail
                go_quiet (fail)
                have B10 : Below w9.heap.size w9 (w9.drewN nq) := below_drewN (Below.refl _ _) nq
                have HB10 : Hid (Below w.heap.size w (w9.drewN nq)) := Below.then HB9.out B10
                have G1 : Hid (Shown.FRow (w9.drewN nq) gw n T W) := HFw.out.below B10
                have G2 : Hid (Shown.FRow (w9.drewN nq) gp cut T W) := HFp.out.below B10
                have G3 : Hid (Shown.FRow (w9.drewN nq) gs (n - cut) (fun j => T (cut + j)) (fun j => W (cut + j))) := HFs.out.below B10
                clear B10 HB9 HFw HFp HFs HMw HMp q0 q1 p0 p1 r0 r1
                go_wp2
                go_loopw [18] (fun i wr => ∃ k : Nat, k ≤ n ∧ i = .int .i64 k ∧ Hid (Below w.heap.size w wr) ∧ Hid (Shown.FRow wr gw n T W) ∧ Hid (Shown.FRow wr gp cut T W) ∧ Hid (Shown.FRow wr gs (n - cut) (fun j => T (cut + j)) (fun j => W (cut + j)))) (fun i _ => n - (intOf i).toNat)
                case atStart => exact ⟨0, Nat.zero_le _, rfl, HB10, G1, G2, G3⟩
                case round =>
                  clear HB10 G1 G2 G3
                  obtain ⟨k, hk, rfl, HB, G1, G2, G3⟩ := hrel
                  by_cases hlt : k < n
                  · have hrk := (HR.out.below HB.out) k hlt
                    have c1 := hrk.1
                    have c2 := hrk.2
                    have hWk := HF.out k hlt
                    have sek : (FloatKind.f64.format.order (Fl.secs (W k)) (Fl.secs (W k)) == some .eq) = true := by rw [Fixed.self_eq (W k) hWk.1 hWk.2]; rfl
                    have sg1 := (Fixed.sign_gt (W k) hWk.1 hWk.2).1
                    have sg2 := (Fixed.sign_gt (W k) hWk.1 hWk.2).2
                    have a1 := (G1.out k hlt).1
                    have a2 := (G1.out k hlt).2
                    have ltb : b < wr.heap.size := World.block_lt_of_cell? _ _ c1
                    have ltg : gw < wr.heap.size := World.block_lt_of_cell? _ _ a1
                    clear hrk hWk
                    by_cases hkc : k < cut
                    · have e1 := (G2.out k hkc).1
                      have e2 := (G2.out k hkc).2
                      have ltp : gp < wr.heap.size := World.block_lt_of_cell? _ _ e1
                      go_wp2_with fail
                      go_quiet (fail)
                      go_wp2_with fail
                      go_quiet (fail)
                      go_wp2
                      exact ⟨⟨k + 1, by omega, by go_num, Below.then HB.out (below_drewN (alloc_below _ _) _), G1.out.below (below_drewN (alloc_below _ _) _), G2.out.below (below_drewN (alloc_below _ _) _), G3.out.below (below_drewN (alloc_below _ _) _)⟩, by simp [intOf]; omega⟩
                    · obtain ⟨m, rfl⟩ : ∃ m, k = cut + m := ⟨k - cut, by omega⟩
                      have e1 := (G3.out m (by omega)).1
                      have e2 := (G3.out m (by omega)).2
                      have ltp : gs < wr.heap.size := World.block_lt_of_cell? _ _ e1
                      have hmc : (m : Int) < ((n - cut : Nat) : Int) := by omega
                      go_wp2_with fail
                      go_quiet (fail)
                      go_wp2_with fail
                      go_quiet (fail)
                      go_wp2
                      exact ⟨⟨cut + m + 1, by omega, by go_num, Below.then HB.out (below_drewN (alloc_below _ _) _), G1.out.below (below_drewN (alloc_below _ _) _), G2.out.below (below_drewN (alloc_below _ _) _), G3.out.below (below_drewN (alloc_below _ _) _)⟩, by simp [intOf]; omega⟩
                  · go_wp2
                    go_ret
                    exact ⟨rfl, HB.out⟩
              · go_wp2
                go_ret
                exact ⟨rfl, Below.refl _ _⟩
        · go_wp2
          go_ret
          exact ⟨rfl, Below.refl _ _⟩
      · go_wp2
        go_ret
        exact ⟨rfl, Below.refl _ _⟩
    · go_wp2
      go_ret
      exact ⟨rfl, Below.refl _ _⟩

set_option maxHeartbeats 4000000 in
set_option maxRecDepth 100000 in
theorem walk_out (s : ByteArray) (a1 : Option Addr) (n cap1 : Nat) (a2 : Option Addr) (len2 cap2 : Nat) (ss : Nat → ByteArray) (cut : Int) (w : World)
    (hs : Same.Strs w a2 len2 ss) (hc : cut < 1 ∨ (n : Int) ≤ cut) :
    Calls Try.prog 4 #[.string s, .slice a1 n cap1, .slice a2 len2 cap2, .int .i64 cut] w fun e w' => e = .returned (.bool true) ∧ Below w.heap.size w w' := by
  have HS : Hid (Same.Strs w a2 len2 ss) := hs
  have HC : Hid (cut < 1 ∨ (n : Int) ≤ cut) := hc
  clear hs hc
  go_enter Try.func4, Try.ntmps4
  go_wp2_with fail
  refine (Same.bytes9 s _ n cap1 a2 len2 cap2 ss _ w HS.out).mono ?_
  rintro e w' ⟨⟨bb, rfl⟩, rfl⟩
  cases bb with
  | false =>
    go_wp2
    go_ret
    exact ⟨rfl, Below.refl _ _⟩
  | true =>
    by_cases h1 : s.size ≤ 1048576
    · by_cases h2 : n ≤ 65536
      · by_cases h3 : len2 ≤ 65536
        · have d1 : decide (1048576 < (s.size : Int)) = false := decide_eq_false (by omega)
          have d2 : decide (65536 < (n : Int)) = false := decide_eq_false (by omega)
          have d3 : decide (65536 < (len2 : Int)) = false := decide_eq_false (by omega)
          go_wp2
          go_loop [9, 10] (fun zz i => ∃ (k : Nat) (z : Int), k ≤ len2 ∧ i = .int .i64 k ∧ zz = .int .i64 z) (fun _ i => len2 - (intOf i).toNat)
          case atStart => exact ⟨0, _, Nat.zero_le _, rfl, rfl⟩
          case round =>
            obtain ⟨k, z, hk, rfl, rfl⟩ := hrel
            by_cases hlt : k < len2
            · rcases HS.out with h0 | ⟨b, off, rfl, hc⟩
              · omega
              · have c := hc k hlt
                clear hc
                by_cases hz : z ≤ 1048576
                · go_wp2
                  exact ⟨⟨k + 1, _, by omega, by go_num, rfl⟩, by simp [intOf]; omega⟩
                · go_wp2
                  go_ret
                  exact ⟨rfl, Below.refl _ _⟩
            · by_cases hz : z ≤ 1048576
              · by_cases hc : cut < 1
                · go_wp2
                  go_ret
                  exact ⟨rfl, Below.refl _ _⟩
                · have hc2 : (n : Int) ≤ cut := by
                    rcases HC.out with h | h
                    · exact absurd h hc
                    · exact h
                  go_wp2
                  go_ret
                  exact ⟨rfl, Below.refl _ _⟩
              · go_wp2
                go_ret
                exact ⟨rfl, Below.refl _ _⟩
        · go_wp2
          go_ret
          exact ⟨rfl, Below.refl _ _⟩
      · go_wp2
        go_ret
        exact ⟨rfl, Below.refl _ _⟩
    · go_wp2
      go_ret
      exact ⟨rfl, Below.refl _ _⟩

theorem walk (s : ByteArray) (a1 : Option Addr) (n cap1 : Nat) (T W : Nat → Int) (a2 : Option Addr) (len2 cap2 : Nat) (ss : Nat → ByteArray) (cut : Int) (w : World)
    (hp : Agree.Pairs w a1 n cap1 T W) (hs : Same.Strs w a2 len2 ss) :
    Calls Try.prog 4 #[.string s, .slice a1 n cap1, .slice a2 len2 cap2, .int .i64 cut] w fun e w' => e = .returned (.bool true) ∧ Below w.heap.size w w' := by
  by_cases hc : cut < 1 ∨ (n : Int) ≤ cut
  · exact walk_out s a1 n cap1 a2 len2 cap2 ss cut w hs hc
  · obtain ⟨c, rfl⟩ := Int.eq_ofNat_of_zero_le (show 0 ≤ cut by omega)
    obtain ⟨hcap, h0 | ⟨b, off, rfl, hr, hf⟩⟩ := hp
    · omega
    · exact walk_main s b off n cap1 T W a2 len2 cap2 ss c w hcap hr hf hs (by omega) (by omega)
end Go.Proofs.Qxb6628611a.Split
