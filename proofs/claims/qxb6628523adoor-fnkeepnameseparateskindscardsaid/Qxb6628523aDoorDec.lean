/-
  THE PLAIN SIDE: a decimal numeral read back; two numbers with one numeral are one; the names of Keeps.
-/
import Derived.Test.Qxb6628523aDoorKeep
namespace Go.Proofs.Qxb6628523aDoor.Dec
open Keep

/-- Reading digits from the left, on from v. -/
def readOn (v : Nat) (l : List UInt8) : Nat := l.foldl (fun v c => v * 10 + (c.toNat - 48)) v

def read (l : List UInt8) : Nat := readOn 0 l

theorem read_snoc (l : List UInt8) (c : UInt8) : read (l ++ [c]) = read l * 10 + (c.toNat - 48) := by
  simp [read, readOn]

theorem digit_toNat (d : Nat) (h : d < 10) : (UInt8.ofNat (48 + d)).toNat = 48 + d := by
  rw [UInt8.toNat_ofNat']; omega

theorem read_dec (u : Nat) : read (Lib.decDigits u) = u := by
  induction u using Nat.strongRecOn with
  | _ u ih =>
    rw [Lib.decDigits]
    by_cases h : u < 10
    · rw [dif_pos h]
      show 0 * 10 + ((UInt8.ofNat (48 + u)).toNat - 48) = u
      rw [digit_toNat u h]; omega
    · rw [dif_neg h, read_snoc, ih (u / 10) (by omega), digit_toNat _ (by omega)]; omega

theorem dec_inj {u v : Nat} (h : Lib.decDigits u = Lib.decDigits v) : u = v := by
  rw [← read_dec u, ← read_dec v, h]

/-- When two names are one. -/
theorem name_rr (a1 a2 : Bool) (u1 u2 : Nat) : name true a1 u1 = name true a2 u2 ↔ u1 = u2 := by
  constructor
  · intro h
    simp only [name, if_true] at h
    exact dec_inj (List.append_cancel_left h)
  · rintro rfl; rfl

theorem name_rn (a1 a2 : Bool) (u1 u2 : Nat) : name true a1 u1 ≠ name false a2 u2 := by
  cases a2 <;> simp [name, rnd]

theorem name_nn (a1 a2 : Bool) (u1 u2 : Nat) : name false a1 u1 = name false a2 u2 ↔ a1 = a2 := by
  cases a1 <;> cases a2 <;> simp [name]

end Go.Proofs.Qxb6628523aDoor.Dec
