/-
  THE PLAIN SIDE: a decimal numeral read back; two numbers with one numeral are one; the names of Keeps.
-/
import Derived.Test.Qxb6628523aDoorKeep
namespace Go.Proofs.Qxb6628523aDoor.Dec
open Keep

/-- Reading digits from the left, on from v. -/
def readOn (v : Nat) (l : List UInt8) : Nat := l.foldl (fun v c => v * 10 + (c.toNat - 48)) v

def read (l : List UInt8) : Nat := readOn 0 l

theorem read_snoc (l : List UInt8) (c : UInt8) : read (l ++ [c]) = read l * 10 + (c.toNat - 48) := by
  simp [read, readOn]

theorem digit_toNat (d : Nat) (h : d < 10) : (UInt8.ofNat (48 + d)).toNat = 48 + d := by
  rw [UInt8.toNat_ofNat']; omega

theorem read_dec (u : Nat) : read (Lib.decDigits u) = u := by
  induction u using Nat.strongRecOn with
  | _ u ih =>
    rw [Lib.decDigits]
    by_cases h : u < 10
    · rw [dif_pos h]
      show 0 * 10 + ((UInt8.ofNat (48 + u)).toNat - 48) = u
      rw [digit_toNat u h]; omega
    · rw [dif_neg h, read_snoc, ih (u / 10) (by omega), digit_toNat _ (by omega)]; omega

theorem dec_inj {u v : Nat} (h : Lib.decDigits u = Lib.decDigits v) : u = v := by
  rw [← read_dec u, ← read_dec v, h]

theorem readOn_ge (l : List UInt8) : ∀ v, v ≤ readOn v l := by
  induction l with
  | nil => intro v; exact Nat.le_refl _
  | cons c l ih =>
    intro v
    have := ih (v * 10 + (c.toNat - 48))
    show v ≤ readOn (v * 10 + (c.toNat - 48)) l
    omega

theorem read_take_le (l : List UInt8) (k : Nat) : read (l.take k) ≤ read l := by
  have h : read l = readOn (read (l.take k)) (l.drop k) := by
    unfold read readOn
    rw [← List.foldl_append, List.take_append_drop]
  rw [h]
  exact readOn_ge _ _

/-- Every byte of a numeral is a digit. -/
theorem dec_digit (u : Nat) : ∀ c ∈ Lib.decDigits u, 48 ≤ c.toNat ∧ c.toNat ≤ 57 := by
  induction u using Nat.strongRecOn with
  | _ u ih =>
    intro c hc
    rw [Lib.decDigits] at hc
    by_cases h : u < 10
    · rw [dif_pos h, List.mem_singleton] at hc
      rw [hc, digit_toNat u h]; omega
    · rw [dif_neg h, List.mem_append, List.mem_singleton] at hc
      rcases hc with hc | hc
      · exact ih (u / 10) (by omega) c hc
      · rw [hc, digit_toNat _ (by omega)]; omega

/-- A numeral that opens with '0' is '0'. -/
theorem lead (u : Nat) : ∀ (h : 0 < (Lib.decDigits u).length), ((Lib.decDigits u)[0]).toNat = 48 → Lib.nDigits u = 1 := by
  have key : 10 ≤ u → ∀ (h : 0 < (Lib.decDigits u).length), ((Lib.decDigits u)[0]).toNat ≠ 48 := by
    induction u using Nat.strongRecOn with
    | _ u ih =>
      intro hu h
      have e : Lib.decDigits u = Lib.decDigits (u / 10) ++ [UInt8.ofNat (48 + u % 10)] := by
        rw [Lib.decDigits, dif_neg (by omega)]
      have hp : 0 < (Lib.decDigits (u / 10)).length := by rw [Lib.decDigits_length]; exact Lib.nDigits_pos _
      have e0 : (Lib.decDigits u)[0] = (Lib.decDigits (u / 10))[0] := by
        simp only [e]
        rw [List.getElem_append_left hp]
      rw [e0]
      by_cases hs : u / 10 < 10
      · have e1 : (Lib.decDigits (u / 10))[0] = UInt8.ofNat (48 + u / 10) := by
          simp only [Lib.decDigits_one hs, List.getElem_cons_zero]
        rw [e1, digit_toNat _ hs]; omega
      · exact ih (u / 10) (by omega) (by omega) hp
  intro h hz
  by_cases hu : u < 10
  · exact Lib.nDigits_small hu
  · exact absurd hz (key (by omega) h)

/-- When two names are one. -/
theorem name_rr (a1 a2 : Bool) (u1 u2 : Nat) : name true a1 u1 = name true a2 u2 ↔ u1 = u2 := by
  constructor
  · intro h
    simp only [name, if_true] at h
    exact dec_inj (List.append_cancel_left h)
  · rintro rfl; rfl

theorem name_rn (a1 a2 : Bool) (u1 u2 : Nat) : name true a1 u1 ≠ name false a2 u2 := by
  cases a2 <;> simp [name, rnd]

theorem name_nn (a1 a2 : Bool) (u1 u2 : Nat) : name false a1 u1 = name false a2 u2 ↔ a1 = a2 := by
  cases a1 <;> cases a2 <;> simp [name]

end Go.Proofs.Qxb6628523aDoor.Dec
