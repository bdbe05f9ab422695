/-
  THE WALKS THAT BOTH LAWS SHARE: ZZnewKeep (5), Keep.String (6).
-/
import Derived.Test.Qxb6628523aDoorFmt
import Derived.WalkLawsBesides
namespace Go.Proofs.Qxb6628523aDoor.Keep
open Go.RowKit
set_option linter.unusedSimpArgs false
set_option linter.unusedVariables false

/-- The table of powers of ten, as the program's text lays it. -/
def Tab (w : World) : Prop := Lib.TabIs Tryd.prog w Tryd.powName .u64 Lib.pow10Tab

theorem tab_below {w w' : World} (h : Tab w) (hb : Below w.heap.size w w') : Tab w' := by
  unfold Tab Lib.TabIs World.var? at *
  cases hg : Tryd.prog.globalNamed Tryd.powName with
  | none => simp [hg] at h
  | some g =>
    simp only [hg, Option.bind_some] at h ⊢
    have hlt : g < w.heap.size := by
      rcases Nat.lt_or_ge g w.heap.size with h' | h'
      · exact h'
      · rw [Array.getElem?_eq_none h'] at h; simp at h
    rw [hb.block g hlt]
    exact h

/-- The word 'random' and a colon. -/
def rnd : List UInt8 := [114, 97, 110, 100, 111, 109, 58]

/-- The name of a Keep. -/
def name (r a : Bool) (u : Nat) : List UInt8 := if r then rnd ++ Lib.decDigits u else if a then [97, 108, 108] else [110, 111, 110, 101]

theorem ret_string {a b : ByteArray} (h : a.data.toList = b.data.toList) : Ending.returned (.string a) = .returned (.string b) := by
  rw [WideShapes.bytes_inj h]

theorem new_any (r a : Bool) (u : Int) (w : World) :
    Calls Tryd.prog 5 #[.bool r, .bool a, .int .u64 u] w fun e w' => e = .returned (.agg #[.bool r, .bool a, .int .u64 u]) ∧ Below w.heap.size w w' := by
  go_enter Tryd.func5, Tryd.ntmps5
  go_wp2
  refine bodyPost_ret (v := .agg #[.bool r, .bool a, .int .u64 u]) (by simp [results, Tryd.results5, go_sem]) rfl ⟨rfl, ?_⟩
  exact (Below.refl _ _).alloc (Nat.le_refl _) _

theorem string_any (r a : Bool) (u : Nat) (hu : u < 18446744073709551616) (w : World) (ht : Tab w) :
    Calls Tryd.prog 6 #[.agg #[.bool r, .bool a, .int .u64 u]] w fun e w' => e = .returned (.string ⟨(name r a u).toArray⟩) ∧ Below w.heap.size w w' := by
  cases r with
  | true =>
    have T1 : Hid (∀ o, Tab (w.alloc o)) := fun o => tab_below ht ((Below.refl _ _).alloc (Nat.le_refl _) _)
    have hl : (Lib.decDigits u).length ≤ 20 := by rw [Lib.decDigits_length]; exact Lib.nDigits_le20 u hu
    clear ht
    go_enter Tryd.func6, Tryd.ntmps6
    go_wp2_with (go_at_call 8; refine (Fmt.format u hu _ (T1.out _)).mono ?_; rintro e w' ⟨rfl, hb⟩)
    go_ret
    refine ⟨ret_string ?_, ?_⟩
    · simp [name, rnd]
    · exact ((Below.refl _ _).alloc (Nat.le_refl _) _).trans (hb.mono (by simp))
  | false =>
    cases a with
    | true =>
      go_enter Tryd.func6, Tryd.ntmps6
      go_wp2
      go_ret
      exact ⟨rfl, (Below.refl _ _).alloc (Nat.le_refl _) _⟩
    | false =>
      go_enter Tryd.func6, Tryd.ntmps6
      go_wp2
      go_ret
      exact ⟨rfl, (Below.refl _ _).alloc (Nat.le_refl _) _⟩
end Go.Proofs.Qxb6628523aDoor.Keep
