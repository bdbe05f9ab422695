/-
  THE PLAIN SIDE, 1: what rounding to a float64 does, over the model's own 'Ieee'. Every finite float64 is a whole number of units of 2^-1074; 'val' is that number.
-/
import Ieee.Arith
namespace Go.Proofs.Qxb6628611a.Fl
open Ieee

theorem lp : double.leastPlace = -1074 := by decide
theorem bin : double.binade = 2 ^ 52 := rfl
theorem inf : double.infRung = 2047 * 2 ^ 52 := by decide
theorem sgn : double.signWeight = 2 ^ 63 := rfl
theorem frac : double.fractionBits = 52 := rfl

/-- Rounding to the nearest whole number lies between whole bounds. -/
theorem cut_ge (neg : Bool) (n drop A : Nat) (hd : drop ≤ n.log2 + 2) (h : A * 2 ^ drop ≤ n) : A ≤ Toward.even.cut neg n drop := by
  unfold Toward.cut
  dsimp only
  rw [Nat.min_eq_left hd, Nat.one_shiftLeft]
  have : A ≤ n / 2 ^ drop := (Nat.le_div_iff_mul_le (Nat.two_pow_pos _)).2 h
  omega

theorem cut_le (neg : Bool) (n drop B : Nat) (hd : drop ≤ n.log2 + 2) (h : n ≤ B * 2 ^ drop) : Toward.even.cut neg n drop ≤ B := by
  unfold Toward.cut
  dsimp only
  rw [Nat.min_eq_left hd, Nat.one_shiftLeft]
  have hp : 0 < 2 ^ drop := Nat.two_pow_pos _
  generalize 2 ^ drop = g at *
  have hdm := Nat.div_add_mod n g
  by_cases e : n % g = 0
  · rw [e]
    have h1 : n / g ≤ B := by
      rw [Nat.div_le_iff_le_mul_add_pred hp]
      rw [Nat.mul_comm g B]; omega
    have h2 : (decide (g < 2 * 0) || (g == 2 * 0 && n / g % 2 == 1)) = false := by simp; omega
    rw [h2]
    simpa using h1
  · have h1 : n / g < B := by
      rw [Nat.div_lt_iff_lt_mul hp]
      rcases Nat.lt_or_ge n (B * g) with h' | h'
      · exact h'
      · exfalso
        have : n = B * g := Nat.le_antisymm h h'
        rw [this, Nat.mul_mod_left] at e
        exact e rfl
    have h2 : ((decide (g < 2 * (n % g)) || (g == 2 * (n % g) && n / g % 2 == 1))).toNat ≤ 1 := Bool.toNat_le _
    omega

/-- The shift by which a number of X units is rounded. -/
def eX (X : Nat) : Nat := X.log2 - 52

theorem log2_mul_pow (m p : Nat) (h : m ≠ 0) : (m * 2 ^ p).log2 = m.log2 + p := by
  have h1 := Nat.log2_self_le h
  have h2 := Nat.lt_log2_self (n := m)
  have hp : 0 < 2 ^ p := Nat.two_pow_pos _
  have h3 : m * 2 ^ p ≠ 0 := Nat.mul_ne_zero h (by omega)
  apply Nat.le_antisymm
  · apply Nat.le_of_lt_succ
    rw [Nat.log2_lt h3]
    calc m * 2 ^ p < 2 ^ (m.log2 + 1) * 2 ^ p := Nat.mul_lt_mul_of_pos_right h2 hp
      _ = 2 ^ (m.log2 + p).succ := by rw [← Nat.pow_add]; congr 1; omega
  · rw [Nat.le_log2 h3, Nat.pow_add]
    exact Nat.mul_le_mul_right _ h1

/-- What a word without overflow reads as. -/
theorem read_word (neg : Bool) (e K : Nat) (he : e ≤ 2000) (hK : K ≤ 2 ^ 53) (hlo : e = 0 ∨ 2 ^ 52 ≤ K) :
    ∃ m : Nat, ∃ q : Nat, double.read (double.word neg (e * 2 ^ 52 + K)) = .number neg m ((q : Int) - 1074) ∧ m * 2 ^ q = K * 2 ^ e ∧ m ≤ 2 ^ 53 := by
  have hr : e * 2 ^ 52 + K < 2047 * 2 ^ 52 := by omega
  have hneg : ((double.word neg (e * 2 ^ 52 + K)) / double.signWeight % 2 == 1) = neg := by
    rw [sgn]
    unfold Format.word
    rw [sgn]
    cases neg
    · simp only [Bool.false_eq_true, if_false]
      have : (e * 2 ^ 52 + K) / 2 ^ 63 = 0 := Nat.div_eq_of_lt (by omega)
      rw [this]; rfl
    · simp only [if_true]
      have : (2 ^ 63 + (e * 2 ^ 52 + K)) / 2 ^ 63 = 1 := by omega
      rw [this]; rfl
  have hrung : (double.word neg (e * 2 ^ 52 + K)) % double.signWeight = e * 2 ^ 52 + K := by
    rw [sgn]
    unfold Format.word
    rw [sgn]
    cases neg
    · simp only [Bool.false_eq_true, if_false]; omega
    · simp only [if_true]; omega
  unfold Format.read
  simp only [hneg, hrung]
  rw [bin, inf, lp]
  by_cases h1 : e * 2 ^ 52 + K < 2 ^ 52
  · rw [if_pos h1]
    have e0 : e = 0 := by omega
    subst e0
    refine ⟨_, 0, ?_, rfl, by omega⟩
    simp
  · rw [if_neg h1, if_pos hr]
    by_cases h2 : K = 2 ^ 53
    · refine ⟨2 ^ 52, e + 1, ?_, by rw [h2, Nat.pow_succ]; omega, by omega⟩
      have a1 : (e * 2 ^ 52 + K) % 2 ^ 52 = 0 := by omega
      have a2 : (e * 2 ^ 52 + K) / 2 ^ 52 = e + 2 := by omega
      rw [a1, a2]
      congr 1
    · refine ⟨K, e, ?_, rfl, hK⟩
      have a1 : 2 ^ 52 + (e * 2 ^ 52 + K) % 2 ^ 52 = K := by omega
      have a2 : (e * 2 ^ 52 + K) / 2 ^ 52 = e + 1 := by omega
      rw [a1, a2]
      congr 1

/-- WHAT 'nearest' GIVES: a number of whole units that lies between whole bounds of the last place that is kept. -/
theorem near (neg : Bool) (mag P N : Nat) (hN : N ≤ 2000) (hX : mag * 2 ^ P < 2 ^ N) :
    ∃ m q : Nat, double.read (double.nearest neg mag ((P : Int) - 1074)) = .number neg m ((q : Int) - 1074) ∧
      (∀ A, 2 ^ eX (mag * 2 ^ P) ∣ A → A ≤ mag * 2 ^ P → A ≤ m * 2 ^ q) ∧ (∀ B, 2 ^ eX (mag * 2 ^ P) ∣ B → mag * 2 ^ P ≤ B → m * 2 ^ q ≤ B) ∧ m ≤ 2 ^ 53 := by
  by_cases h0 : mag = 0
  · subst h0
    obtain ⟨m, q, h1, h2, h3⟩ := read_word neg 0 0 (by omega) (by omega) (.inl rfl)
    refine ⟨m, q, ?_, ?_, ?_, h3⟩
    · unfold Format.nearest
      rw [if_pos rfl]
      simpa using h1
    · intro A _ hA; omega
    · intro B _ _; rw [h2]; omega
  · have hl := log2_mul_pow mag P h0
    have hX0 : mag * 2 ^ P ≠ 0 := Nat.mul_ne_zero h0 (Nat.pos_iff_ne_zero.1 (Nat.two_pow_pos _))
    have hlt : (mag * 2 ^ P).log2 < N := (Nat.log2_lt hX0).2 hX
    have s1 := Nat.log2_self_le hX0
    have s2 := Nat.lt_log2_self (n := mag * 2 ^ P)
    obtain ⟨e, he⟩ : ∃ e, e = eX (mag * 2 ^ P) := ⟨_, rfl⟩
    have he' : e = mag.log2 + P - 52 := by rw [he, eX, hl]
    have hlast : max ((P : Int) - 1074 + (mag.log2 : Int) - (52 : Nat)) (-1074) = (e : Int) - 1074 := by omega
    -- what is kept
    obtain ⟨K, hK⟩ : ∃ K, K = Toward.even.cut neg (mag <<< (P - e)) (e - P) := ⟨_, rfl⟩
    have key : (∀ A, A * 2 ^ e ≤ mag * 2 ^ P → A ≤ K) ∧ (∀ B, mag * 2 ^ P ≤ B * 2 ^ e → K ≤ B) := by
      rw [hK, Nat.shiftLeft_eq]
      rcases Nat.le_total e P with hc | hc
      · have hz : e - P = 0 := by omega
        rw [hz]
        have hs : mag * 2 ^ P = mag * 2 ^ (P - e) * 2 ^ e := by rw [Nat.mul_assoc, ← Nat.pow_add, Nat.sub_add_cancel hc]
        rw [hs]
        constructor
        · intro A hA
          exact cut_ge neg _ 0 A (by omega) (by have := Nat.le_of_mul_le_mul_right hA (Nat.two_pow_pos e); omega)
        · intro B hB
          exact cut_le neg _ 0 B (by omega) (by have := Nat.le_of_mul_le_mul_right hB (Nat.two_pow_pos e); omega)
      · have hz : P - e = 0 := by omega
        rw [hz, Nat.pow_zero, Nat.mul_one]
        have hs : ∀ A, A * 2 ^ e = A * 2 ^ (e - P) * 2 ^ P := fun A => by rw [Nat.mul_assoc, ← Nat.pow_add, Nat.sub_add_cancel hc]
        constructor
        · intro A hA
          rw [hs] at hA
          exact cut_ge neg _ _ A (by omega) (Nat.le_of_mul_le_mul_right hA (Nat.two_pow_pos P))
        · intro B hB
          rw [hs] at hB
          exact cut_le neg _ _ B (by omega) (Nat.le_of_mul_le_mul_right hB (Nat.two_pow_pos P))
    have hK53 : K ≤ 2 ^ 53 := by
      apply key.2
      rw [← Nat.pow_add]
      apply Nat.le_of_lt
      refine Nat.lt_of_lt_of_le s2 (Nat.pow_le_pow_right (by omega) ?_)
      rw [hl, he']; omega
    have hK52 : e = 0 ∨ 2 ^ 52 ≤ K := by
      by_cases hz : e = 0
      · exact .inl hz
      · right
        apply key.1
        rw [← Nat.pow_add]
        refine Nat.le_trans (Nat.pow_le_pow_right (by omega) ?_) s1
        rw [hl]; omega
    obtain ⟨m, q, h1, h2, h3⟩ := read_word neg e K (by omega) hK53 hK52
    refine ⟨m, q, ?_, ?_, ?_, h3⟩
    · unfold Format.nearest
      rw [if_neg h0, frac, lp, inf, bin]
      simp only [hlast]
      have a1 : ((P : Int) - 1074 - ((e : Int) - 1074)).toNat = P - e := by omega
      have a2 : ((e : Int) - 1074 - ((P : Int) - 1074)).toNat = e - P := by omega
      have a3 : ((e : Int) - 1074 - -1074).toNat = e := by omega
      rw [a1, a2, a3, ← hK, Nat.min_eq_left (by omega)]
      exact h1
    · intro A ⟨c, hc⟩ hA
      rw [← he] at hc
      rw [hc, Nat.mul_comm (2 ^ e) c] at hA ⊢
      rw [h2]
      exact Nat.mul_le_mul_right _ (key.1 c hA)
    · intro B ⟨c, hc⟩ hB
      rw [← he] at hc
      rw [hc, Nat.mul_comm (2 ^ e) c] at hB ⊢
      rw [h2]
      exact Nat.mul_le_mul_right _ (key.2 c hB)

/-! ### Words that stand for numbers -/

theorem signed_eq (s : Bool) (m q : Nat) : signed s m q = if s = true then -((m * 2 ^ q : Nat) : Int) else ((m * 2 ^ q : Nat) : Int) := by
  unfold signed
  rw [Nat.shiftLeft_eq]

theorem signed_mul (s : Bool) (m a b : Nat) : signed s m a * ((2 ^ b : Nat) : Int) = signed s m (a + b) := by
  rw [signed_eq, signed_eq, Nat.pow_add, ← Nat.mul_assoc, Int.natCast_mul (m * 2 ^ a)]
  cases s <;> simp [Int.neg_mul]

theorem natAbs_signed (s : Bool) (m q : Nat) : (signed s m q).natAbs = m * 2 ^ q := by
  rw [signed_eq]; split <;> omega

/-- The word x stands for the number of z units. -/
def Num (x : Nat) (z : Int) : Prop := ∃ s m q, double.read x = .number s m ((q : Nat) - 1074 : Int) ∧ z = signed s m q

theorem compare_mul (a b : Int) (g : Nat) (h : 0 < g) : compare (a * (g : Int)) (b * (g : Int)) = compare a b := by
  have hg : (0 : Int) < (g : Int) := by omega
  rcases Int.lt_trichotomy a b with h1 | h1 | h1
  · rw [Int.compare_eq_lt.2 h1, Int.compare_eq_lt.2 (Int.mul_lt_mul_of_pos_right h1 hg)]
  · subst h1; rw [Int.compare_eq_eq.2 rfl, Int.compare_eq_eq.2 rfl]
  · rw [Int.compare_eq_gt.2 h1, Int.compare_eq_gt.2 (Int.mul_lt_mul_of_pos_right h1 hg)]

theorem order_num {x y : Nat} {a b : Int} (hx : Num x a) (hy : Num y b) : double.order x y = some (compare a b) := by
  obtain ⟨s, m, i, hx, rfl⟩ := hx
  obtain ⟨t, n, j, hy, rfl⟩ := hy
  unfold Format.order
  rw [hx, hy]
  unfold Datum.order
  dsimp only
  obtain ⟨k, hk⟩ : ∃ k : Nat, k = min i j := ⟨_, rfl⟩
  have hb : min ((i : Int) - 1074) ((j : Int) - 1074) = (k : Int) - 1074 := by omega
  rw [hb]
  have a1 : ((i : Int) - 1074 - ((k : Int) - 1074)).toNat = i - k := by omega
  have a2 : ((j : Int) - 1074 - ((k : Int) - 1074)).toNat = j - k := by omega
  rw [a1, a2, ← compare_mul _ _ (2 ^ k) (Nat.two_pow_pos k), signed_mul, signed_mul]
  rw [show i - k + k = i by omega, show j - k + k = j by omega]

/-- The signed form of 'near'. -/
theorem near_num (neg : Bool) (mag P N : Nat) (hN : N ≤ 2000) (hX : mag * 2 ^ P < 2 ^ N) :
    ∃ c, Num (double.nearest neg mag ((P : Int) - 1074)) c ∧
      (∀ A : Int, ((2 ^ eX (mag * 2 ^ P) : Nat) : Int) ∣ A → A ≤ signed neg mag P → A ≤ c) ∧ (∀ B : Int, ((2 ^ eX (mag * 2 ^ P) : Nat) : Int) ∣ B → signed neg mag P ≤ B → c ≤ B) := by
  obtain ⟨m, q, h1, h2, h3, _⟩ := near neg mag P N hN hX
  refine ⟨signed neg m q, ⟨neg, m, q, h1, rfl⟩, ?_, ?_⟩
  · intro A hd hA
    rw [signed_eq] at hA ⊢
    cases neg with
    | false =>
      simp only [Bool.false_eq_true, if_false] at hA ⊢
      rcases Int.lt_or_le A 0 with hn | hn
      · omega
      · obtain ⟨n, rfl⟩ := Int.eq_ofNat_of_zero_le hn
        have := h2 n (Int.ofNat_dvd.1 hd) (by omega)
        omega
    | true =>
      simp only [if_true] at hA ⊢
      obtain ⟨n, hn⟩ := Int.eq_ofNat_of_zero_le (show 0 ≤ -A by omega)
      have hd' : ((2 ^ eX (mag * 2 ^ P) : Nat) : Int) ∣ (n : Int) := by rw [← hn]; exact Int.dvd_neg.2 hd
      have := h3 n (Int.ofNat_dvd.1 hd') (by omega)
      omega
  · intro A hd hA
    rw [signed_eq] at hA ⊢
    cases neg with
    | false =>
      simp only [Bool.false_eq_true, if_false] at hA ⊢
      obtain ⟨n, rfl⟩ := Int.eq_ofNat_of_zero_le (show 0 ≤ A by omega)
      have := h3 n (Int.ofNat_dvd.1 hd) (by omega)
      omega
    | true =>
      simp only [if_true] at hA ⊢
      rcases Int.lt_or_le 0 A with hn | hn
      · omega
      · obtain ⟨n, hn⟩ := Int.eq_ofNat_of_zero_le (show 0 ≤ -A by omega)
        have hd' : ((2 ^ eX (mag * 2 ^ P) : Nat) : Int) ∣ (n : Int) := by rw [← hn]; exact Int.dvd_neg.2 hd
        have := h2 n (Int.ofNat_dvd.1 hd') (by omega)
        omega

/-- A rounded number keeps its side of zero. -/
theorem top_dvd (X : Nat) : 2 ^ eX X ∣ 2 ^ X.log2 := by
  refine ⟨2 ^ (X.log2 - eX X), ?_⟩
  rw [← Nat.pow_add]
  congr 1
  unfold eX
  omega

/-- THE SUM, ROUNDED. -/
theorem sum_num {d1 d2 : Datum} {s t : Bool} {m n i j : Nat} (h1 : d1 = .number s m ((i : Int) - 1074)) (h2 : d2 = .number t n ((j : Int) - 1074))
    (N : Nat) (hN : N ≤ 2000) (hX : (signed s m i + signed t n j).natAbs < 2 ^ N) :
    ∃ r c, (d1.sum d2).map double.write = some r ∧ Num r c ∧
      (∀ A : Int, ((2 ^ eX (signed s m i + signed t n j).natAbs : Nat) : Int) ∣ A → A ≤ signed s m i + signed t n j → A ≤ c) ∧
      (∀ B : Int, ((2 ^ eX (signed s m i + signed t n j).natAbs : Nat) : Int) ∣ B → signed s m i + signed t n j ≤ B → c ≤ B) := by
  subst h1; subst h2
  unfold Datum.sum
  dsimp only
  obtain ⟨k, hk⟩ : ∃ k : Nat, k = min i j := ⟨_, rfl⟩
  have hb : min ((i : Int) - 1074) ((j : Int) - 1074) = (k : Int) - 1074 := by omega
  rw [hb]
  have a1 : ((i : Int) - 1074 - ((k : Int) - 1074)).toNat = i - k := by omega
  have a2 : ((j : Int) - 1074 - ((k : Int) - 1074)).toNat = j - k := by omega
  rw [a1, a2]
  obtain ⟨T, hT⟩ : ∃ T, T = signed s m (i - k) + signed t n (j - k) := ⟨_, rfl⟩
  have hsum : signed s m i + signed t n j = T * ((2 ^ k : Nat) : Int) := by
    rw [hT, Int.add_mul, signed_mul, signed_mul, show i - k + k = i by omega, show j - k + k = j by omega]
  rw [← hT]
  rw [hsum] at hX ⊢
  have hn : (T * ((2 ^ k : Nat) : Int)).natAbs = T.natAbs * 2 ^ k := by rw [Int.natAbs_mul, Int.natAbs_natCast]
  rw [hn] at hX ⊢
  obtain ⟨c, hc, hlo, hhi⟩ := near_num (if T = 0 then s && t else decide (T < 0)) T.natAbs k N hN hX
  have hv : signed (if T = 0 then s && t else decide (T < 0)) T.natAbs k = T * ((2 ^ k : Nat) : Int) := by
    rw [signed_eq, Int.natCast_mul]
    by_cases h0 : T = 0
    · subst h0; simp
    · rw [if_neg h0]
      by_cases h1 : T < 0
      · rw [decide_eq_true h1, if_pos rfl, ← Int.neg_mul]
        congr 1; omega
      · rw [decide_eq_false h1]
        simp only [Bool.false_eq_true, if_false]
        congr 1; omega
  rw [hv] at hlo hhi
  refine ⟨_, c, rfl, ?_, hlo, hhi⟩
  exact hc

end Go.Proofs.Qxb6628611a.Fl
