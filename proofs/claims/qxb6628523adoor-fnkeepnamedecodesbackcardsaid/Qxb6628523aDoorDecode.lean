/-
  THE WALK OF zzDecodeSeed (7): a canonical numeral is read back.
-/
import Derived.Test.Qxb6628523aDoorDec
namespace Go.Proofs.Qxb6628523aDoor.Decode
open Go.RowKit Keep
set_option linter.unusedSimpArgs false
set_option linter.unusedVariables false

theorem val_u64 {a b : Int} (h : a = b) : Value.int .u64 a = .int .u64 b := by rw [h]

theorem ret2 {a b : Int} (h : a = b) : Ending.returned (.tuple #[.int .u64 a, .bool true]) = .returned (.tuple #[.int .u64 b, .bool true]) := by rw [h]

set_option maxHeartbeats 2000000 in
theorem walk (s : ByteArray) (F : Nat → Nat) (w : World) (h1 : 1 ≤ s.size) (h20 : s.size ≤ 20)
    (h0 : Hid (F 0 = 0)) (hd : Hid (∀ k (h : k < s.size), 48 ≤ s[k].toNat ∧ s[k].toNat ≤ 57))
    (hF : Hid (∀ k (h : k < s.size), F (k + 1) = F k * 10 + (s[k].toNat - 48)))
    (hb : Hid (∀ k, k ≤ s.size → F k ≤ 18446744073709551615))
    (hz : Hid (∀ h : 0 < s.size, s[0].toNat = 48 → s.size = 1)) :
    Calls Tryd.prog 7 #[.string s] w fun e w' => e = .returned (.tuple #[.int .u64 (F s.size), .bool true]) ∧ w = w' := by
  have c0 : ((s.size : Int) == 0) = false := beq_eq_false_iff_ne.2 (by omega)
  have hp : 0 < s.size := by omega
  have key : (((s[0].toNat : Int) == 48) = false) ∨ ((((s[0].toNat : Int) == 48) = true) ∧ ((s.size : Int) != 1) = false) := by
    by_cases e : s[0].toNat = 48
    · right; refine ⟨by simp [e], by have := hz.out hp e; simp [this]⟩
    · left; simp; omega
  rcases key with k1 | ⟨k1, k2⟩
  all_goals
    go_enter Tryd.func7, Tryd.ntmps7
    go_wp2
    go_loop [4, 5] (fun v i => ∃ k : Nat, k ≤ s.size ∧ i = .int .i64 k ∧ v = .int .u64 (F k)) (fun _ i => s.size - (intOf i).toNat)
    case atStart => exact ⟨0, Nat.zero_le _, rfl, by rw [h0.out]; rfl⟩
    case round =>
      obtain ⟨k, hk, rfl, rfl⟩ := hrel
      by_cases hlt : k < s.size
      · have e1 := hd.out k hlt
        have e2 := hF.out k hlt
        have e3 := hb.out (k + 1) (by omega)
        have H2 : Hid (F (k + 1) = F k * 10 + (s[k].toNat - 48)) := e2
        have f1 : (48 : Int) ≤ (s[k].toNat : Int) := by omega
        have f2 : (s[k].toNat : Int) ≤ 57 := by omega
        have f3 : (F k : Int) ≤ 1844674407370955161 := by omega
        by_cases he : (F k : Int) = 1844674407370955161
        · have g1 : ((F k : Int) == 1844674407370955161) = true := beq_iff_eq.2 he
          have g2 : (s[k].toNat : Int) ≤ 53 := by omega
          clear he e1 e2 e3
          go_wp2
          exact ⟨⟨k + 1, by omega, by go_num, val_u64 (by have := H2.out; omega)⟩, by simp [intOf]; omega⟩
        · have g1 : ((F k : Int) == 1844674407370955161) = false := beq_eq_false_iff_ne.2 he
          have g3 : (F k : Int) ≤ 1844674407370955160 := by omega
          clear he e1 e2 e3
          go_wp2
          exact ⟨⟨k + 1, by omega, by go_num, val_u64 (by have := H2.out; omega)⟩, by simp [intOf]; omega⟩
      · have e : k = s.size := by omega
        subst e
        go_wp2
        go_ret2
        exact ⟨rfl, rfl⟩

theorem at_list (s : ByteArray) (l : List UInt8) (hl : s.data.toList = l) (k : Nat) (h : k < s.size) (h' : k < l.length) : s[k] = l[k] := by
  subst hl; rfl

/-- The numeral of u is read back to u. -/
theorem decode (u : Nat) (hu : u < 18446744073709551616) (s : ByteArray) (hs : s.data.toList = Lib.decDigits u) (w : World) :
    Calls Tryd.prog 7 #[.string s] w fun e w' => e = .returned (.tuple #[.int .u64 u, .bool true]) ∧ w = w' := by
  have hn : s.size = Lib.nDigits u := by rw [← Lib.decDigits_length, ← hs]; simp
  have hlen : (Lib.decDigits u).length = s.size := by rw [Lib.decDigits_length, hn]
  refine (walk s (fun k => Dec.read ((Lib.decDigits u).take k)) w (by rw [hn]; exact Lib.nDigits_pos u) (by rw [hn]; exact Lib.nDigits_le20 u hu) rfl ?_ ?_ ?_ ?_).mono ?_
  · intro k h
    rw [at_list s _ hs k h (by omega)]
    exact Dec.dec_digit u _ (List.getElem_mem _)
  · intro k h
    have h' : k < (Lib.decDigits u).length := by omega
    show Dec.read ((Lib.decDigits u).take (k + 1)) = _
    rw [List.take_succ_eq_append_getElem h', Dec.read_snoc, at_list s _ hs k h h']
  · intro k h
    have := Dec.read_take_le (Lib.decDigits u) k
    rw [Dec.read_dec] at this
    show Dec.read ((Lib.decDigits u).take k) ≤ _
    omega
  · intro h hz
    rw [at_list s _ hs 0 h (by omega)] at hz
    rw [hn]
    exact Dec.lead u (by omega) hz
  · rintro e w' ⟨rfl, rfl⟩
    refine ⟨ret2 ?_, rfl⟩
    show ((Dec.read ((Lib.decDigits u).take s.size) : Nat) : Int) = u
    rw [List.take_of_length_le (by omega), Dec.read_dec]
end Go.Proofs.Qxb6628523aDoor.Decode
