/-
  'Rows.FnKeepNameDecodesBackCardSaid', proved: the row by the walk, the card by the given tie.
-/
import Derived.Test.Qxb6628523aDoorCards
import Derived.Test.Qxb6628523aDoorBack
import Derived.Test.Qxb6628523aDoorLaid
import Derived.SevenTiedAt
namespace Go.Proofs.Qxb6628523aDoor.BackProof
open Go.ChangeShapes Go.WideShapes Go.ChangeAt Go.RowKit Laid
set_option linter.unusedVariables false

set_option maxRecDepth 100000 in
theorem lifted (os : Os) (started : os.Started) (H : Type) (enc : TypeId × Value → H) :
    ReturnsInHanded {} Tryd.checked os 3 .any (fun w args => (Rows.fnKeepNameDecodesBackSpec.pre enc Tryd.prog Tryd.f3 [] false w args ∧ laidMetH Tryd.prog laid3 w) ∧ sizedMet enc Tryd.prog Tryd.f3 (OpenSpec.ofChange Rows.fnKeepNameDecodesBackSpec) false w args)
      (Rows.fnKeepNameDecodesBackSpec.post enc Tryd.prog Tryd.f3 false true false false) := by
  refine returnsInHanded_of_change_and (C := Tryd.checked) (X := fun w _ => laidMetH Tryd.prog laid3 w) (fun _ _ _ hh h => h.of_heap hh) own started (by kernel_rfl) Tryd.func3
    (ChangeSpec.witness_shaped (enc := enc) (C := Tryd.checked) (os := os) (X := fun w _ => laidMetH Tryd.prog laid3 w) false (World.doorLaid Tryd.prog 24 os) #[.bool false, .bool false, .int .u64 0] 8 rfl (World.shaped_of_RefB (by kernel_rfl) (by kernel_rfl)) (by kernel_rfl) (by kernel_rfl) (by kernel_rfl) (door_met os _)) ?_
  intro W base args ds gs before hval0 hW _ _ hL _
  have hval : ∀ (j : Nat) t v, Tryd.f3.params[j]? = some t → args[j]? = some v → Value.okWide Tryd.prog W .any base t v := hval0
  have hW' := hW
  obtain ⟨p, q, hA0, hV, rfl, hfz, hnd⟩ := hW
  have hA : DataW.TrodAll enc Tryd.prog W 0 (fun _ => true) true Tryd.f3.params.toList args.toList ds p := hA0
  rw [Tryd.params3] at hA hval
  obtain ⟨v0, vs0, d0, ds0, p0, q0, hargs, rfl, rfl, h0, r0⟩ := trodAll_cons hA
  obtain ⟨v1, vs1, d1, ds1, p1, q1, rfl, rfl, rfl, h1, r1⟩ := trodAll_cons r0
  obtain ⟨v2, vs2, d2, ds2, p2, q2, rfl, rfl, rfl, h2, r2⟩ := trodAll_cons r1
  obtain ⟨rfl, rfl, rfl⟩ := trodAll_nil r2
  obtain rfl : args = #[v0, v1, v2] := by cases args; simp_all
  obtain ⟨rfl, rfl⟩ := trodVars_none hV
  obtain ⟨a0, rfl, rfl, rfl⟩ := open_bool Tryd.underlying4 (hval 0 4 v0 rfl rfl) h0
  obtain ⟨a1, rfl, rfl, rfl⟩ := open_bool Tryd.underlying4 (hval 1 4 v1 rfl rfl) h1
  obtain ⟨a2, rfl, rfl, rfl, w2⟩ := open_int Tryd.underlying22 (hval 2 22 v2 rfl rfl) h2
  clear hA0 hval0
  simp only [List.append_nil] at hW'
  have b2 := bounds_u64 w2
  obtain ⟨u1, rfl⟩ := Int.eq_ofNat_of_zero_le b2.1
  have fin : Calls Tryd.prog 3 #[.bool a0, .bool a1, .int .u64 u1] W fun e w' => e = .returned (.bool true) ∧ Below W.heap.size W w' := by
    cases a0 with
    | true => exact Back.walk_random a1 u1 (by omega) W (tab_of hL)
    | false => exact Back.walk_plain a1 u1 W
  refine fin.mono fun e W' ⟨he, bel⟩ => ?_
  subst he
  exact ⟨_, rfl, _, _, _, [], [], [], hW', trodAll_mk1 (shut_bool Tryd.underlying4 _), (trodAll_cons_mk (shut_bool Tryd.underlying4 _) (trodAll_cons_mk (shut_bool Tryd.underlying4 _) (trodAll_cons_mk (shut_int Tryd.underlying22 w2) trodAll_mk0))), rfl, bel.frame _, fun h => by cases h⟩

theorem holds : Rows.FnKeepNameDecodesBackSaid :=
  OpenClaim.holds_of_wide 3 Tryd.f3 rfl rfl rfl rfl rfl rfl rfl ⟨rfl, rfl, rfl, rfl, rfl⟩ rfl rfl rfl rfl rfl (by kernel_rfl) Tryd.func3 (by kernel_rfl)
    (of_decide_eq_true (by kernel_rfl)) (by unfold Func.isWrapper; first | (rw [if_pos (by decide +kernel)]; kernel_rfl) | (rw [if_neg (by decide +kernel)]; exact ⟨rfl, rfl⟩))
    (fun os started H enc _ => lifted os started H enc)

theorem plainTypes : ∀ (j : Nat) t, Tryd.f3.params[j]? = some t → Tryd.prog.wantsStandIn t = false := by
  intro j t ht
  rw [Tryd.params3] at ht
  have h4 : Tryd.prog.wantsStandIn 4 = false := by kernel_rfl
  have h22 : Tryd.prog.wantsStandIn 22 = false := by kernel_rfl
  match j, ht with
  | 0, ht => simp at ht; subst ht; exact h4
  | 1, ht => simp at ht; subst ht; exact h4
  | 2, ht => simp at ht; subst ht; exact h22
  | j + 3, ht => simp at ht

/-- THE STATEMENT. -/
theorem proved : Rows.FnKeepNameDecodesBackCardSaid :=
  Claim7.holds_tied_plain_at .later [] [.data, .data, .data] true (true, "2cb9647a5b3479490d2ae03480f1ccfa3dc8953b3bee9f78b178f8af7905112a") false
    holds (fun _ h => by cases h) (by kernel_rfl) (fun _ h => by cases h) fnKeepNameDecodesBack_row_tie rfl ⟨rfl, rfl⟩ (by kernel_rfl) rfl
    (fun f fn hf hfn => by
      obtain rfl : f = 3 := Option.some.inj ((show Tryd.prog.funcNamed Rows.fnKeepNameDecodesBackRow.func = some 3 by kernel_rfl).symm.trans hf) |>.symm
      obtain rfl : fn = Tryd.f3 := (Option.some.inj (Tryd.func3.symm.trans hfn)).symm
      exact ⟨by kernel_rfl, plainTypes⟩)
    (by kernel_rfl)
#print axioms proved
end Go.Proofs.Qxb6628523aDoor.BackProof
