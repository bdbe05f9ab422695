/-
  HOW THE TWO SLICES OF THE ARGUMENTS ARE OPENED: the rates into 'Pairs', the counters into 'Strs'.
-/
import Derived.Test.Qxb6628611aAgree
import Derived.ProofKit
import Derived.OpenShut
import Derived.SliceStrings
import Derived.Deep.Slices
import Derived.ChangeOld
import Derived.Lib.ItoaMem
namespace Go.Proofs.Qxb6628611a.Open
open Go.ChangeShapes Go.WideShapes Go.RowKit

theorem cells41 : Try.prog.cellsOf 41 = 2 := by kernel_rfl
theorem cells31 : Try.prog.cellsOf 31 = 1 := by kernel_rfl
theorem cells2 : Try.prog.cellsOf 2 = 1 := by kernel_rfl
theorem cells9 : Try.prog.cellsOf 9 = 1 := by kernel_rfl

theorem two_of {l : List Value} {u v : Value} (hl : l.length = 2) (h0 : (l.drop 0).take 1 = [u]) (h1 : (l.drop 1).take 1 = [v]) : l = [u, v] := by
  match l, hl with
  | [a, b], _ => simp at h0 h1; rw [h0, h1]

/-- One rate, read. -/
theorem rate_of {H : Type} {enc : TypeId × Value → H} {W : World} {base n : Nat} {sp : Nat → Bool} {held : Bool} {cs : List Value} {x : DataW H × List MemPlace}
    (h : DataW.trod enc Try.prog W base sp held n 41 cs = some x) : ∃ t v : Int, cs = [.int .u32 t, .int .i64 v] ∧ -9223372036854775808 ≤ v ∧ v ≤ 9223372036854775807 := by
  obtain ⟨y0, y1, m, _, hl, h0, h1⟩ := trod_struct2 Try.underlying41 h
  obtain ⟨t, e0, _, _⟩ := DataW.trod_int Try.underlying31 h0
  obtain ⟨v, e1, _, wf⟩ := DataW.trod_int Try.underlying2 h1
  have b := bounds_i64 wf
  rw [cells41] at hl
  refine ⟨t, v, two_of hl ?_ ?_, b.1, b.2⟩
  · simpa [cells31] using e0
  · simpa [cells2] using e1

theorem pairs_of {H : Type} {enc : TypeId × Value → H} {W : World} {fuel : Nat} {held : Bool} {a : Option Addr} {len cap : Nat} {x : DataW H × List MemPlace}
    (h : DataW.trod enc Try.prog W 0 (fun _ => true) held fuel 22 [.slice a len cap] = some x) : ∃ T V : Nat → Int, Agree.Pairs W a len cap T V := by
  rcases Deep.open_slice Try.underlying22 h with ⟨hcs, _⟩ | ⟨ad, len', cap', m, n, D, Pl, hcs, _, hl, _, hm, _, hel⟩
  · simp at hcs
    obtain ⟨rfl, rfl, rfl⟩ := hcs
    exact ⟨fun _ => 0, fun _ => 0, Nat.le_refl _, .inl rfl⟩
  · simp at hcs
    obtain ⟨rfl, rfl, rfl⟩ := hcs
    simp only [if_true] at hm
    subst hm
    have each : ∀ i, i < len → ∃ tv : Int × Int, W.cell? (ad.add (i * 2)) = some (.int .u32 tv.1) ∧ W.cell? ((ad.add (i * 2)).add 1) = some (.int .i64 tv.2) ∧ -9223372036854775808 ≤ tv.2 ∧ tv.2 ≤ 9223372036854775807 := by
      intro i hi
      obtain ⟨cs', hc, ht⟩ := hel i (by omega)
      obtain ⟨t, v, rfl, b1, b2⟩ := rate_of ht
      rw [cells41] at hc
      have hs := World.cells?_some hc
      refine ⟨(t, v), ?_, ?_, b1, b2⟩
      · have a := hs.2.2 0 (by omega)
        simpa [Addr.add] using a
      · have a := hs.2.2 1 (by omega)
        simpa using a
    obtain ⟨f, hf⟩ := Deep.choose_lt each
    refine ⟨fun i => (f i).1, fun i => (f i).2, hl, ?_⟩
    by_cases h0 : len = 0
    · exact .inl h0
    · right
      have c0 := (hf 0 (by omega)).1
      obtain ⟨b, off, spot⟩ := ad
      have hspot : spot = none := by simpa [Addr.add] using World.cell?_spot c0
      subst hspot
      refine ⟨b, off, rfl, fun j hj => ?_, fun j hj => (hf j hj).2.2⟩
      have a := hf j hj
      have a1 := a.1
      have a2 := a.2.1
      rw [Lib.add_plain] at a1 a2
      rw [Lib.add_plain] at a2
      exact ⟨a1, a2⟩

theorem strs_of {H : Type} {enc : TypeId × Value → H} {W : World} {fuel : Nat} {held : Bool} {a : Option Addr} {len cap : Nat} {x : DataW H × List MemPlace}
    (h : DataW.trod enc Try.prog W 0 (fun _ => true) held fuel 23 [.slice a len cap] = some x) : ∃ ss : Nat → ByteArray, Same.Strs W a len ss := by
  rcases open_strings Try.underlying23 Try.underlying9 cells9 h with ⟨hcs, _⟩ | ⟨ad, len', cap', ss, hcs, _, hl, _, hz, _, hc, _⟩
  · simp at hcs
    obtain ⟨rfl, rfl, rfl⟩ := hcs
    exact ⟨fun _ => ByteArray.empty, .inl rfl⟩
  · simp at hcs
    obtain ⟨rfl, rfl, rfl⟩ := hcs
    simp only [if_true] at hz
    refine ⟨fun i => ss.getD i ByteArray.empty, ?_⟩
    by_cases h0 : len = 0
    · exact .inl h0
    · right
      have c0 := hc 0 (by omega)
      obtain ⟨b, off, spot⟩ := ad
      have hspot : spot = none := by simpa [Addr.add] using World.cell?_spot c0
      subst hspot
      refine ⟨b, off, rfl, fun j hj => ?_⟩
      have a := hc j (by omega)
      rw [Lib.add_plain] at a
      exact a
end Go.Proofs.Qxb6628611a.Open
