/-
  DERIVED. GIVEN WITH THE SEED: THE CARDS: each row of Qxb6628523aDoorRows.lean that lists a variable, with what it lists TIED to the program's text (the seventh form; the later family's looks); each row that meets fmt, with fmt's text TOLD by the authors' own Lean function (tested against real Go, not proved from fmt's source: count such statements apart). THE CARD IS WHAT COUNTS. Prove the row's statement (the work); the ties are given (Qxb6628523aDoorTie.lean); close each card by the builder's one call (the guide's Derived/Test/ToyasCard.lean, 'card_holds'). Laid BY PROGRAM, IN A SANDBOX (cutbox-door.mjs). By AI agents, Wed Nov 11 2026. No macro, syntax, notation, axiom, sorry.
-/
import Derived.Test.Qxb6628523aDoorRows
import GoSem.ClaimSeven
namespace Go.Proofs.Qxb6628523aDoor
namespace Rows

/-- THE TIED CARD OF 'zzlaws_internal_powercut_b1.FnKeepNameDecodesBack'. -/
def fnKeepNameDecodesBackCard : Claim7 := { stood := { row := fnKeepNameDecodesBackRow, standIns := [], harness := (true, "2cb9647a5b3479490d2ae03480f1ccfa3dc8953b3bee9f78b178f8af7905112a"), looks := false }, kinds := [], alts := [], laidByText := true, laidKinds := [.data, .data, .data], laidTests := true, laidLooks := .later }
def FnKeepNameDecodesBackCardSaid : Prop := Claim7.holds Tryd.pinned (.plain (OpenSpec.ofChange fnKeepNameDecodesBackSpec)) fnKeepNameDecodesBackCard

/-- THE TIED CARD OF 'zzlaws_internal_powercut_b1.FnKeepNameSeparatesKinds'. -/
def fnKeepNameSeparatesKindsCard : Claim7 := { stood := { row := fnKeepNameSeparatesKindsRow, standIns := [], harness := (true, "2cb9647a5b3479490d2ae03480f1ccfa3dc8953b3bee9f78b178f8af7905112a"), looks := false }, kinds := [], alts := [], laidByText := true, laidKinds := [.data, .data, .data], laidTests := true, laidLooks := .later }
def FnKeepNameSeparatesKindsCardSaid : Prop := Claim7.holds Tryd.pinned (.plain (OpenSpec.ofChange fnKeepNameSeparatesKindsSpec)) fnKeepNameSeparatesKindsCard
end Rows
end Go.Proofs.Qxb6628523aDoor
