import Derived.Test.Qxb6628024aLeaf
import Derived.Lib.AppendStr
import Derived.Laws.IdiomStrings
import Derived.WalkLawsBesides
namespace Go.Proofs.Qxb6628024a.One
open Go.RowKit
set_option linter.unusedSimpArgs false
set_option linter.unusedVariables false
open Leaf

theorem info5 : (Try.prog.info? 5).map (fun i => (i.zero, i.size, i.bytes)) = some (some (.int .u8 0), 1, 1) := by kernel_rfl

theorem bytes_yes (s : ByteArray) (i c : Int) (w : World) (h : s.size ≤ 1048576) :
    Calls Try.prog 8 #[.string s, .int .i64 i, .int .u8 c] w fun e w' => e = .returned (.bool true) ∧ w = w' := by
  go_enter Try.func8, Try.ntmps8
  go_wp2
  go_ret
  exact ⟨rfl, rfl⟩

theorem bytes_no (s : ByteArray) (i c : Int) (w : World) (h : 1048576 < s.size) :
    Calls Try.prog 8 #[.string s, .int .i64 i, .int .u8 c] w fun e w' => e = .returned (.bool false) ∧ w = w' := by
  go_enter Try.func8, Try.ntmps8
  go_wp2
  go_ret
  exact ⟨rfl, rfl⟩

theorem walk_big (s : ByteArray) (i c : Int) (w : World) (hs : s.size ≤ maxLen) (h : 1048576 < s.size) :
    Calls Try.prog 4 #[.string s, .int .i64 i, .int .u8 c] w fun e w' => e = .returned (.bool true) ∧ w = w' := by
  unfold maxLen at hs
  go_enter Try.func4, Try.ntmps4
  go_wp2_with (go_at_call 8; refine (bytes_no _ _ _ _ h).mono ?_; rintro e w' ⟨rfl, rfl⟩)
  go_ret
  exact ⟨rfl, rfl⟩

theorem walk_out (s : ByteArray) (i c : Int) (w : World) (h : s.size ≤ 1048576) (hi : i < 0 ∨ (s.size : Int) < i) :
    Calls Try.prog 4 #[.string s, .int .i64 i, .int .u8 c] w fun e w' => e = .returned (.bool true) ∧ w = w' := by
  rcases hi with hi | hi
  · go_enter Try.func4, Try.ntmps4
    go_wp2_with (go_at_call 8; refine (bytes_yes _ _ _ _ h).mono ?_; rintro e w' ⟨rfl, rfl⟩)
    go_ret
    exact ⟨rfl, rfl⟩
  · have hn : ¬ i < 0 := by omega
    go_enter Try.func4, Try.ntmps4
    go_wp2_with (go_at_call 8; refine (bytes_yes _ _ _ _ h).mono ?_; rintro e w' ⟨rfl, rfl⟩)
    go_ret
    exact ⟨rfl, rfl⟩

/-- What 'string(b)' makes of an owned row of bytes. -/
theorem own_string {w : World} {base n : Nat} {v : Value} (l : List UInt8) (xs : List Value) (hx : xs = l.map (fun b => Value.int .u8 (b.toNat : Int)))
    (h : w.ownsRow base 5 1 v n xs) (hl : 0 < l.length) :
    ∃ g N cap, v = .slice (some ⟨g, 0, none⟩) N cap ∧ (convert 25 9 (.slice (some ⟨g, 0, none⟩) N cap)).run Try.prog w = .ok (.string ⟨l.toArray⟩) w := by
  subst hx
  have hn : l.length = n := by have := h.1; simpa using this
  rcases h.2 with ⟨_, h0⟩ | ⟨g, cap, cur, rfl, _⟩
  · omega
  · refine ⟨g, n, cap, rfl, ?_⟩
    subst hn
    refine run_convert_bytes_back w 25 9 5 ⟨g, 0, none⟩ cap l Try.underlying25 Try.underlying5 Try.underlying9 (fun j hj => ?_)
    exact h.cells (g := g) rfl j _ (by simp [hj])

theorem one_string (b : UInt8) (W : World) :
    (convert 25 9 (.slice (some ⟨W.heap.size, 0, none⟩) 1 1)).run Try.prog (W.alloc (.cells #[.int .u8 (b.toNat : Int)] 5)) = .ok (.string ⟨#[b]⟩) (W.alloc (.cells #[.int .u8 (b.toNat : Int)] 5)) := by
  refine run_convert_bytes_back _ 25 9 5 ⟨W.heap.size, 0, none⟩ 1 [b] Try.underlying25 Try.underlying5 Try.underlying9 (fun j hj => ?_)
  match j, hj with
  | 0, _ => simp [Addr.add]

theorem put_cells (s : ByteArray) (i : Nat) (b : UInt8) :
    ([] ++ Lib.strCells (s.extract 0 i)) ++ [Value.int .u8 (b.toNat : Int)] ++ Lib.strCells (s.extract i s.size) = (P.put s.data.toList i b).map (fun b => Value.int .u8 (b.toNat : Int)) := by
  unfold Lib.strCells P.put
  rw [Lib.extract_data, Lib.extract_data]
  simp
  rw [List.take_of_length_le (by simp)]

/-- PlainName, where the string's bytes are known, in a world that has grown from w0. -/
theorem plain_val {w : World} (w0 : World) {s : ByteArray} (l : List UInt8) (v : Bool) (hs : s.size ≤ maxLen) (hl : s.data.toList = l) (hv : P.plain l = v) (hb : Below w0.heap.size w0 w) :
    Calls Try.prog 7 #[.string s] w fun e w' => e = .returned (.bool v) ∧ Below w0.heap.size w0 w' := by
  refine (plain_any s w hs).mono ?_
  rintro e w' ⟨rfl, h⟩
  exact ⟨ret_bool (by rw [hl, hv]), hb.trans (h.mono hb.size)⟩

/-- An append onto an owned row turns nothing that was there. -/
theorem step_below {w wa wb : World} {v : Value} {n : Nat} {xs : List Value} (hb : Below w.heap.size w wa) (ho : wa.ownsRow w.heap.size 5 1 v n xs) (hg : wa.grownBy wb v.ownBlock) : Below w.heap.size w wb :=
  hb.grown hg hb.size (fun k hk => (ho.lt k hk).1)

theorem one_new (b : UInt8) (W : World) : ∀ j u, [Value.int .u8 (b.toNat : Int)][j]? = some u → (W.alloc (.cells #[.int .u8 (b.toNat : Int)] 5)).cell? ((⟨W.heap.size, 0, none⟩ : Addr).add j) = some u := by
  intro j u hj
  match j, hj with
  | 0, hj => simp at hj; subst hj; simp [Addr.add]

theorem one_cell (b : UInt8) : ∀ u ∈ [Value.int .u8 (b.toNat : Int)], u.oneCell' = true := by
  intro u hu; simp at hu; subst hu; rfl

set_option maxHeartbeats 1000000 in
theorem walk_in (s : ByteArray) (i : Nat) (b : UInt8) (w : World) (h : s.size ≤ 1048576) (hi : i ≤ s.size) :
    Calls Try.prog 4 #[.string s, .int .i64 i, .int .u8 (b.toNat : Int)] w fun e w' => e = .returned (.bool true) ∧ Below w.heap.size w w' := by
  obtain ⟨i0, hi0, hz0, hz1, hz2⟩ := info_parts info5
  have x1 : (s.extract 0 i).size = i := by simp [ByteArray.size_extract]; omega
  have x2 : (s.extract i s.size).size = s.size - i := by simp [ByteArray.size_extract]
  have hos := one_string b
  go_enter Try.func4, Try.ntmps4
  go_wp2_with (first
    | (go_at_call 8; refine (bytes_yes _ _ _ _ h).mono ?_; rintro e w' ⟨rfl, rfl⟩)
    | (at_make; refine wpList_make_own _ rfl _ _ 25 rfl w.heap.size 5 i0 (.int .u8 0) 1 Try.underlying25 hi0 hz0 hz1 .i64 .i64 _ (s.size + 1) rfl rfl (by omega) (by rw [hz2]; omega) (by unfold maxLen; omega) (Nat.le_refl _) ?_; intro w1 hown1 hgrow1; have hb1 := step_below (v := .slice none 0 0) (Below.refl _ w) (World.ownsRow_nil _ _ _ _) hgrow1; clear hgrow1)
    | (at_builtin; refine Lib.wpList_append_own_string _ rfl (.tmp 32) (.tmp 35) 25 9 rfl w.heap.size 5 i0 Try.underlying25 Try.underlying9 hi0 hz0 hz1 hz2 (.slice (some ⟨w.heap.size, 0, none⟩) 0 (s.size + 1)) 0 [] rfl hown1 (s.extract 0 i) rfl (by rw [x1]; unfold maxLen; omega) (by rw [x1]; omega) hb1.size ?_; intro v2 w2 hown2 hgrow2 _; have hb2 := step_below hb1 hown1 hgrow2; clear hgrow2 hown1 hb1)
    | (at_builtin; refine wpList_append_own _ rfl (.tmp 37) (.tmp 39) 25 rfl w.heap.size 5 i0 (.int .u8 0) 1 1 Try.underlying25 hi0 hz0 hz1 hz2 rfl (by decide) v2 _ _ rfl (hown2.alloc _) ⟨w2.heap.size, 0, none⟩ 1 1 [.int .u8 (b.toNat : Int)] rfl rfl (one_new b w2) (one_cell b) (by rw [x1]; unfold maxLen; omega) (by rw [x1]; omega) (by have := hb2.size; simp; omega) ?_; intro v3 w3 hown3 hgrow3 _; have hb3 := step_below (hb2.alloc hb2.size _) (hown2.alloc _) hgrow3; clear hgrow3 hown2 hb2)
    | (at_builtin; refine Lib.wpList_append_own_string _ rfl (.tmp 41) (.tmp 44) 25 9 rfl w.heap.size 5 i0 Try.underlying25 Try.underlying9 hi0 hz0 hz1 hz2 v3 _ _ rfl hown3 (s.extract i s.size) rfl (by rw [x1, x2]; unfold maxLen; omega) (by rw [x1, x2]; omega) hb3.size ?_; intro v4 w4 hown4 hgrow4 _; have hb4 := step_below hb3 hown3 hgrow4; clear hgrow4 hown3 hb3; obtain ⟨g, N, cap, hv4, hcv⟩ := own_string (P.put s.data.toList i b) _ (put_cells s i b) hown4 (P.put_pos _ _ _); clear hown4; rw [hv4]; clear hv4))
  clear hos hcv hi0 hz0 hz1 hz2 x1 x2
  have y1 : ByteArray.size ⟨(P.put s.data.toList i b).toArray⟩ ≤ maxLen := by
    show (P.put s.data.toList i b).toArray.size ≤ maxLen
    rw [List.size_toArray, P.put_len]; unfold maxLen; simp; omega
  have y2 : s.size ≤ maxLen := by unfold maxLen; omega
  have y3 : ByteArray.size ⟨#[b]⟩ ≤ maxLen := by show 1 ≤ maxLen; decide
  obtain ⟨ob, ho⟩ : ∃ ob, P.okI (b.toNat : Int) = ob := ⟨_, rfl⟩
  obtain ⟨al, ha⟩ : ∃ al, P.allOk s.data.toList = al := ⟨_, rfl⟩
  have v1 : Hid (P.plain [b] = ob) := by rw [Hid, P.plain_one]; exact ho
  have v2 : Hid (P.plain (P.put s.data.toList i b) = (al && ob)) := by rw [Hid, P.plain_put, ho, ha]
  have HO : Hid (P.okI (b.toNat : Int) = ob) := ho
  have HA : Hid (P.allOk s.data.toList = al) := ha
  have z0 : 0 ≤ (b.toNat : Int) := by omega
  have z1 : (b.toNat : Int) ≤ 255 := by have := b.toNat_lt; omega
  clear ho ha
  refine (plain_val w [b] ob y3 rfl v1.out (hb4.alloc hb4.size _)).mono ?_
  rintro e w5 ⟨rfl, hb5⟩
  clear hb4
  cases hem : s.toList.isEmpty with
  | true =>
    have et : al = true := by rw [← HA.out]; rw [Lib.toList_data, List.isEmpty_iff] at hem; rw [hem]; rfl
    subst et
    go_wp2_with fail
    refine (plain_val w (P.put s.data.toList i b) ob y1 rfl (by rw [v2.out]; rfl) hb5).mono ?_
    rintro e w6 ⟨rfl, hb6⟩
    go_wp2_with fail
    refine (in64_any (b.toNat : Int) _ z0 z1).mono ?_
    rintro e w7 ⟨rfl, rfl⟩
    rw [HO.out]
    go_wp2
    go_ret
    exact ⟨rfl, hb6⟩
  | false =>
    have v3 : Hid (P.plain s.data.toList = al) := by rw [Hid, plain_more hem]; exact HA.out
    go_wp2_with fail
    refine (plain_val w _ al y2 rfl v3.out hb5).mono ?_
    rintro e w6 ⟨rfl, hb6⟩
    go_wp2_with fail
    refine (plain_val w (P.put s.data.toList i b) (al && ob) y1 rfl v2.out hb6).mono ?_
    rintro e w7 ⟨rfl, hb7⟩
    go_wp2_with fail
    refine (in64_any (b.toNat : Int) _ z0 z1).mono ?_
    rintro e w8 ⟨rfl, rfl⟩
    rw [HO.out]
    cases al with
    | true =>
      go_wp2
      go_ret
      exact ⟨rfl, hb7⟩
    | false =>
      go_wp2
      go_ret
      exact ⟨rfl, hb7⟩
end Go.Proofs.Qxb6628024a.One
