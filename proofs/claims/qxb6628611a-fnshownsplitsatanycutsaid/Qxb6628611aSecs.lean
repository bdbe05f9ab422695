/-
  THE PLAIN SIDE, 2: what Duration.Seconds reckons in float64: the whole seconds where the window is a whole number of seconds; else between them and one more, away from zero; of the window's sign.
  (The number of units to the second, 2^1074, goes as '2 ^ u' with 'u = 1074' among the premises, so that nothing reckons it out.)
-/
import Derived.Test.Qxb6628611aFloat
namespace Go.Proofs.Qxb6628611a.Fl
open Ieee

theorem eX_le (X N : Nat) (hN : N ≤ 1126) (h : X < 2 ^ N) : eX X ≤ 1074 := by
  unfold eX
  by_cases h0 : X = 0
  · subst h0; simp
  · have := (Nat.log2_lt h0).2 h
    omega

theorem dvdU (u e : Nat) (h : e ≤ u) (z : Int) : ((2 ^ e : Nat) : Int) ∣ z * ((2 ^ u : Nat) : Int) :=
  Int.dvd_mul_of_dvd_right (Int.ofNat_dvd.2 (Nat.pow_dvd_pow 2 h))

theorem lt_pow_of (u n k : Nat) (h : n < 2 ^ k) : n * 2 ^ u < 2 ^ (k + u) := by
  rw [Nat.pow_add]
  exact Nat.mul_lt_mul_of_pos_right h (Nat.two_pow_pos _)

/-- 'float64(n)'. -/
def fInt (n : Int) : Nat := double.write (.number (decide (n < 0)) n.natAbs 0)

theorem signed_int (u : Nat) (n : Int) : signed (decide (n < 0)) n.natAbs u = n * ((2 ^ u : Nat) : Int) := by
  rw [signed_eq, Int.natCast_mul]
  by_cases h : n < 0
  · rw [decide_eq_true h, if_pos rfl, ← Int.neg_mul]
    congr 1; omega
  · rw [decide_eq_false h]
    simp only [Bool.false_eq_true, if_false]
    congr 1; omega

/-- A whole number below 2^52 is exact. -/
theorem fInt_read (u : Nat) (hu : u = 1074) (n : Int) (h : n.natAbs < 2 ^ 52) : ∃ m q : Nat, double.read (fInt n) = .number (decide (n < 0)) m ((q : Int) - 1074) ∧ m * 2 ^ q = n.natAbs * 2 ^ u ∧ m ≤ 2 ^ 53 := by
  have hX : n.natAbs * 2 ^ u < 2 ^ (52 + u) := lt_pow_of u _ 52 h
  obtain ⟨m, q, h1, h2, h3, h4⟩ := near (decide (n < 0)) n.natAbs u (52 + u) (by omega) hX
  refine ⟨m, q, ?_, ?_, h4⟩
  · rw [show (u : Int) - 1074 = 0 by omega] at h1
    exact h1
  · have hd : 2 ^ eX (n.natAbs * 2 ^ u) ∣ n.natAbs * 2 ^ u := Nat.dvd_trans (Nat.pow_dvd_pow 2 (by rw [hu] at hX ⊢; exact eX_le _ _ (by omega) hX)) (Nat.dvd_mul_left _ _)
    exact Nat.le_antisymm (h3 _ hd (Nat.le_refl _)) (h2 _ hd (Nat.le_refl _))

theorem fInt_num (u : Nat) (hu : u = 1074) (n : Int) (h : n.natAbs < 2 ^ 52) : Num (fInt n) (n * ((2 ^ u : Nat) : Int)) := by
  obtain ⟨m, q, h1, h2, _⟩ := fInt_read u hu n h
  refine ⟨_, m, q, h1, ?_⟩
  rw [← signed_int, signed_eq, signed_eq, h2]

/-- The bits of 1e9 and of 1. -/
def B9 : Nat := 4741671816366391296
def B1 : Nat := 4607182418800017408

theorem read9 : double.read B9 = .number false 8388608000000000 (-23) := by decide
theorem read1 : double.read B1 = .number false 4503599627370496 ((1022 : Nat) - 1074 : Int) := by decide

theorem read1' (k : Nat) (h : k = 1022) : double.read B1 = .number false 4503599627370496 ((k : Nat) - 1074 : Int) := by subst h; exact read1

/-- Go's division of a window, by cases of its sign. -/
theorem tq (W : Int) : (0 ≤ W → W.tdiv 1000000000 = W / 1000000000 ∧ W.tmod 1000000000 = W % 1000000000) ∧ (W < 0 → W.tdiv 1000000000 = -(-W / 1000000000) ∧ W.tmod 1000000000 = -(-W % 1000000000)) := by
  constructor
  · intro h
    exact ⟨Int.tdiv_eq_ediv_of_nonneg h, Int.tmod_eq_emod_of_nonneg h⟩
  · intro h
    obtain ⟨V, rfl⟩ : ∃ V, W = -V := ⟨-W, by omega⟩
    rw [Int.neg_tdiv, Int.neg_tmod, Int.tdiv_eq_ediv_of_nonneg (by omega), Int.tmod_eq_emod_of_nonneg (by omega), Int.neg_neg]
    exact ⟨rfl, rfl⟩

theorem tmod_lt (W : Int) : (W.tmod 1000000000).natAbs < 1000000000 := by
  have h := tq W
  by_cases hw : 0 ≤ W
  · rw [(h.1 hw).2]; omega
  · rw [(h.2 (by omega)).2]; omega

/-- The quotient lies strictly between nought and a whole. -/
theorem quo_lt (u m q d D N a : Nat) (hu : u = 1074) (hN : N = 1000000000 * 2 ^ 23) (h2 : m * 2 ^ q = a * 2 ^ u) (ha : a < 1000000000) (hD : D = q + 22 - d) (hd : d ≤ q + 22) (hD1 : D ≤ 1073) :
    (2 * (m <<< d / N) + (m <<< d % N != 0).toNat) * 2 ^ D < 2 ^ u := by
  have hN0 : 0 < N := by rw [hN]; exact Nat.mul_pos (by omega) (Nat.two_pow_pos _)
  have a1 : m <<< d < 2 ^ (1073 - D) * N := by
    rw [Nat.shiftLeft_eq]
    have b1 : m * 2 ^ d * 2 ^ q < 2 ^ (1073 - D) * N * 2 ^ q := by
      have c1 : m * 2 ^ d * 2 ^ q = a * 2 ^ u * 2 ^ d := by rw [Nat.mul_right_comm, h2]
      have p1 : 2 ^ (1073 - D) * 2 ^ 23 * 2 ^ q = 2 ^ u * 2 ^ d := by
        rw [← Nat.pow_add, ← Nat.pow_add, ← Nat.pow_add]
        exact congrArg (fun k => 2 ^ k) (by omega)
      have c2 : 2 ^ (1073 - D) * N * 2 ^ q = 1000000000 * 2 ^ u * 2 ^ d := by
        rw [hN]
        generalize 2 ^ (1073 - D) = x at *
        generalize 2 ^ q = y at *
        rw [Nat.mul_assoc 1000000000, ← p1]
        generalize (2 : Nat) ^ 23 = z
        generalize (1000000000 : Nat) = b
        rw [Nat.mul_left_comm x b z, Nat.mul_assoc b]
      rw [c1, c2]
      exact Nat.mul_lt_mul_of_pos_right (Nat.mul_lt_mul_of_pos_right ha (Nat.two_pow_pos _)) (Nat.two_pow_pos _)
    exact Nat.lt_of_mul_lt_mul_right b1
  have a2 : m <<< d / N < 2 ^ (1073 - D) := (Nat.div_lt_iff_lt_mul hN0).2 a1
  have a3 : 2 * (m <<< d / N) + (m <<< d % N != 0).toNat < 2 * 2 ^ (1073 - D) := by
    have : (m <<< d % N != 0).toNat ≤ 1 := Bool.toNat_le _
    omega
  have a4 : 2 * 2 ^ (1073 - D) * 2 ^ D = 2 ^ u := by
    have e1 : 2 ^ u = 2 ^ (1073 - D + D + 1) := congrArg (fun k => 2 ^ k) (by omega)
    rw [e1, Nat.pow_succ, Nat.pow_add, Nat.mul_comm _ 2, Nat.mul_assoc]
  rw [← a4]
  exact Nat.mul_lt_mul_of_pos_right a3 (Nat.two_pow_pos _)

theorem quo_pos (z N : Nat) (hz : 0 < z) : 0 < 2 * (z / N) + (z % N != 0).toNat := by
  by_cases h : z % N = 0
  · have := Nat.div_add_mod z N
    have : 0 < z / N := by
      rcases Nat.eq_zero_or_pos (z / N) with e | e
      · rw [e, Nat.mul_zero] at this; omega
      · exact e
    omega
  · have : (z % N != 0) = true := bne_iff_ne.2 h
    rw [this]
    simp

/-- THE DIVISION BY 1e9 of a number of nanoseconds that is not 0. -/
theorem div_read (u : Nat) (hu : u = 1074) (n : Int) (h0 : n ≠ 0) (h : n.natAbs < 1000000000) :
    ∃ r c, double.div (fInt n) B9 = some r ∧ Num r c ∧ (0 < n → 0 < c ∧ c ≤ ((2 ^ u : Nat) : Int)) ∧ (n < 0 → c < 0 ∧ -((2 ^ u : Nat) : Int) ≤ c) := by
  obtain ⟨m, q, h1, h2, h3⟩ := fInt_read u hu n (by omega)
  have hmq0 : 0 < m * 2 ^ q := by rw [h2]; exact Nat.mul_pos (by omega) (Nat.two_pow_pos _)
  have hm0 : m ≠ 0 := by intro e; subst e; simp at hmq0
  have hl53 : m.log2 ≤ 53 := by
    have : m.log2 < 54 := (Nat.log2_lt hm0).2 (by omega)
    omega
  have hlX : m.log2 + q = n.natAbs.log2 + u := by
    rw [← log2_mul_pow m q hm0, ← log2_mul_pow n.natAbs u (by omega), h2]
  have hl30 : n.natAbs.log2 < 30 := (Nat.log2_lt (by omega)).2 (by omega)
  have l9 : (8388608000000000 : Nat).log2 = 52 := by decide
  obtain ⟨N, hN⟩ : ∃ N : Nat, N = 8388608000000000 := ⟨_, rfl⟩
  have hN' : N = 1000000000 * 2 ^ 23 := by rw [hN]
  obtain ⟨d, hd⟩ : ∃ d, d = 106 - m.log2 := ⟨_, rfl⟩
  obtain ⟨D, hD⟩ : ∃ D, D = q + 22 - d := ⟨_, rfl⟩
  obtain ⟨Q, hQ⟩ : ∃ Q, Q = 2 * (m <<< d / N) + (m <<< d % N != 0).toNat := ⟨_, rfl⟩
  have hquo : (double.read (fInt n)).quotient (double.fractionBits + 2) (double.read B9) = some (.number (decide (n < 0)) Q ((D : Int) - 1074)) := by
    rw [h1, read9, frac]
    unfold Datum.quotient
    dsimp only
    rw [l9, ← hN, if_neg (by rw [hN]; decide)]
    have e1 : 52 + 2 + 52 - m.log2 = d := by omega
    have e2 : (q : Int) - 1074 - -23 - (d : Int) - 1 = (D : Int) - 1074 := by omega
    rw [e1, ← hQ, Bool.xor_false, e2]
  have hQ0 : 0 < Q := by
    rw [hQ]
    exact quo_pos _ N (by rw [Nat.shiftLeft_eq]; exact Nat.mul_pos (by omega) (Nat.two_pow_pos _))
  have hlt : Q * 2 ^ D < 2 ^ u := by
    rw [hQ]
    exact quo_lt u m q d D N n.natAbs hu hN' h2 h hD (by omega) (by omega)
  have hX0 : Q * 2 ^ D ≠ 0 := Nat.pos_iff_ne_zero.1 (Nat.mul_pos hQ0 (Nat.two_pow_pos _))
  have hle : eX (Q * 2 ^ D) ≤ u := by rw [hu] at hlt ⊢; exact eX_le _ _ (by omega) hlt
  obtain ⟨c, hc, hlo, hhi⟩ := near_num (decide (n < 0)) Q D u (by omega) hlt
  refine ⟨_, c, ?_, hc, ?_, ?_⟩
  · unfold Format.div
    rw [hquo]
    rfl
  · intro hn
    have hs : signed (decide (n < 0)) Q D = ((Q * 2 ^ D : Nat) : Int) := by rw [signed_eq, decide_eq_false (by omega)]; simp
    rw [hs] at hlo hhi
    constructor
    · have a := hlo ((2 ^ (Q * 2 ^ D).log2 : Nat) : Int) (Int.ofNat_dvd.2 (top_dvd _)) (by have := Nat.log2_self_le hX0; omega)
      have b := Nat.two_pow_pos (Q * 2 ^ D).log2
      omega
    · have := hhi (1 * ((2 ^ u : Nat) : Int)) (dvdU u _ hle 1) (by omega)
      omega
  · intro hn
    have hs : signed (decide (n < 0)) Q D = -((Q * 2 ^ D : Nat) : Int) := by rw [signed_eq, decide_eq_true hn]; simp
    rw [hs] at hlo hhi
    constructor
    · have a := hhi (-((2 ^ (Q * 2 ^ D).log2 : Nat) : Int)) (Int.dvd_neg.2 (Int.ofNat_dvd.2 (top_dvd _))) (by have := Nat.log2_self_le hX0; omega)
      have b := Nat.two_pow_pos (Q * 2 ^ D).log2
      omega
    · have := hlo (-1 * ((2 ^ u : Nat) : Int)) (dvdU u _ hle (-1)) (by omega)
      omega

theorem div_zero : double.div (fInt 0) B9 = some 0 := by decide
theorem num_zero : Num 0 0 := ⟨false, 0, 0, by decide, by decide⟩

/-- The part of a second, as Seconds reckons it. -/
def quoW (W : Int) : Nat := (double.div (fInt (W.tmod 1000000000)) B9).getD 0

/-- What Seconds gives. -/
def secs (W : Int) : Nat := (double.add (fInt (W.tdiv 1000000000)) (quoW W)).getD 0

theorem quoW_num (u : Nat) (hu : u = 1074) (W : Int) :
    double.div (fInt (W.tmod 1000000000)) B9 = some (quoW W) ∧ ∃ c, Num (quoW W) c ∧ (W.tmod 1000000000 = 0 → c = 0) ∧
      (0 < W.tmod 1000000000 → 0 < c ∧ c ≤ ((2 ^ u : Nat) : Int)) ∧ (W.tmod 1000000000 < 0 → c < 0 ∧ -((2 ^ u : Nat) : Int) ≤ c) := by
  unfold quoW
  by_cases h0 : W.tmod 1000000000 = 0
  · rw [h0, div_zero]
    exact ⟨rfl, 0, num_zero, fun _ => rfl, fun h => by omega, fun h => by omega⟩
  · obtain ⟨r, c, h1, h2, h3, h4⟩ := div_read u hu (W.tmod 1000000000) h0 (tmod_lt W)
    rw [h1]
    exact ⟨rfl, c, h2, fun h => absurd h h0, h3, h4⟩

/-- The sum of two numbers of at most 2^40 seconds, rounded. -/
theorem add_num (u : Nat) (hu : u = 1074) {d1 d2 : Datum} {a b : Int} (h1 : ∃ s m q, d1 = .number s m ((q : Nat) - 1074 : Int) ∧ a = signed s m q) (h2 : ∃ s m q, d2 = .number s m ((q : Nat) - 1074 : Int) ∧ b = signed s m q)
    (hX : (a + b).natAbs < 2 ^ (40 + u)) :
    ∃ r c, (d1.sum d2).map double.write = some r ∧ Num r c ∧ (∀ z : Int, z * ((2 ^ u : Nat) : Int) ≤ a + b → z * ((2 ^ u : Nat) : Int) ≤ c) ∧ (∀ z : Int, a + b ≤ z * ((2 ^ u : Nat) : Int) → c ≤ z * ((2 ^ u : Nat) : Int)) ∧
      (0 < a + b → 0 < c) ∧ (a + b < 0 → c < 0) := by
  obtain ⟨s, m, i, rfl, rfl⟩ := h1
  obtain ⟨t, n, j, rfl, rfl⟩ := h2
  obtain ⟨r, c, e1, e2, hlo, hhi⟩ := sum_num rfl rfl (40 + u) (by omega) hX
  have hle : eX (signed s m i + signed t n j).natAbs ≤ u := by rw [hu] at hX ⊢; exact eX_le _ _ (by omega) hX
  refine ⟨r, c, e1, e2, fun z hz => hlo _ (dvdU u _ hle z) hz, fun z hz => hhi _ (dvdU u _ hle z) hz, ?_, ?_⟩
  · intro hp
    have a := hlo ((2 ^ (signed s m i + signed t n j).natAbs.log2 : Nat) : Int) (Int.ofNat_dvd.2 (top_dvd _)) (by have := Nat.log2_self_le (n := (signed s m i + signed t n j).natAbs) (by omega); omega)
    have b := Nat.two_pow_pos (signed s m i + signed t n j).natAbs.log2
    omega
  · intro hp
    have a := hhi (-((2 ^ (signed s m i + signed t n j).natAbs.log2 : Nat) : Int)) (Int.dvd_neg.2 (Int.ofNat_dvd.2 (top_dvd _))) (by have := Nat.log2_self_le (n := (signed s m i + signed t n j).natAbs) (by omega); omega)
    have b := Nat.two_pow_pos (signed s m i + signed t n j).natAbs.log2
    omega

/-- A bound on a number of seconds and a part of one. -/
theorem bound_of (u : Nat) (z c : Int) (hz : z.natAbs < 2 ^ 39) (hc : c.natAbs ≤ 2 ^ u) : (z * ((2 ^ u : Nat) : Int) + c).natAbs < 2 ^ (40 + u) := by
  have h1 : (z * ((2 ^ u : Nat) : Int)).natAbs = z.natAbs * 2 ^ u := by rw [Int.natAbs_mul, Int.natAbs_natCast]
  have h2 : z.natAbs * 2 ^ u < 2 ^ 39 * 2 ^ u := Nat.mul_lt_mul_of_pos_right hz (Nat.two_pow_pos _)
  have h3 : 2 ^ (40 + u) = 2 ^ 39 * 2 ^ u + 2 ^ 39 * 2 ^ u := by rw [Nat.pow_add]; omega
  have h4 : 2 ^ u ≤ 2 ^ 39 * 2 ^ u := Nat.le_mul_of_pos_left _ (by decide)
  omega

/-- ALL THAT IS WANTED OF Seconds. -/
theorem secs_all (W : Int) (h0 : -9223372036854775808 ≤ W) (h1 : W ≤ 9223372036854775807) :
    double.div (fInt (W.tmod 1000000000)) B9 = some (quoW W) ∧ double.add (fInt (W.tdiv 1000000000)) (quoW W) = some (secs W) ∧
    ∃ u v : Int, 0 < u ∧ Num (secs W) v ∧ Num (fInt (W.tdiv 1000000000)) (W.tdiv 1000000000 * u) ∧
      (W.tmod 1000000000 = 0 → v = W.tdiv 1000000000 * u) ∧
      (0 < W → W.tdiv 1000000000 * u ≤ v ∧ v ≤ (W.tdiv 1000000000 + 1) * u) ∧
      (W < 0 → (W.tdiv 1000000000 - 1) * u ≤ v ∧ v ≤ W.tdiv 1000000000 * u) ∧
      (0 < W → 0 < v) ∧ (W < 0 → v < 0) ∧ (W = 0 → v = 0) ∧
      (∃ r, double.add (fInt (W.tdiv 1000000000)) B1 = some r ∧ Num r ((W.tdiv 1000000000 + 1) * u)) ∧
      (∃ r, double.sub (fInt (W.tdiv 1000000000)) B1 = some r ∧ Num r ((W.tdiv 1000000000 - 1) * u)) := by
  obtain ⟨u, hu⟩ : ∃ u : Nat, u = 1074 := ⟨_, rfl⟩
  have hU : (0 : Int) < ((2 ^ u : Nat) : Int) := by have := Nat.two_pow_pos u; omega
  obtain ⟨q1, c, q2, q3, q4, q5⟩ := quoW_num u hu W
  refine ⟨q1, ?_⟩
  obtain ⟨sec, hsec⟩ : ∃ sec, sec = W.tdiv 1000000000 := ⟨_, rfl⟩
  obtain ⟨ns, hns⟩ : ∃ ns, ns = W.tmod 1000000000 := ⟨_, rfl⟩
  have hW : W = 1000000000 * sec + ns := by rw [hsec, hns]; exact (Int.mul_tdiv_add_tmod W 1000000000).symm
  have htq := tq W
  rw [← hsec, ← hns] at htq
  have hb : sec.natAbs ≤ 9223372036 := by
    by_cases hw : 0 ≤ W
    · have := htq.1 hw; omega
    · have := htq.2 (by omega); omega
  have hnb : (0 ≤ W → 0 ≤ ns ∧ 0 ≤ sec) ∧ (W ≤ 0 → ns ≤ 0 ∧ sec ≤ 0) ∧ ns.natAbs < 1000000000 := by
    by_cases hw : 0 ≤ W
    · have := htq.1 hw; omega
    · have := htq.2 (by omega); omega
  rw [← hns] at q3 q4 q5 ⊢
  rw [← hsec]
  have hf := fInt_num u hu sec (by omega)
  have hcb : c.natAbs ≤ 2 ^ u := by
    rcases Int.lt_trichotomy ns 0 with h | h | h
    · have := q5 h; omega
    · have := q3 h; omega
    · have := q4 h; omega
  obtain ⟨s1, m1, i1, r1, v1⟩ := hf
  obtain ⟨s2, m2, i2, r2, v2⟩ := q2
  obtain ⟨r, v, e1, e2, hlo, hhi, hp, hn⟩ := add_num u hu ⟨s1, m1, i1, r1, v1⟩ ⟨s2, m2, i2, r2, v2⟩ (bound_of u sec c (by omega) hcb)
  have hadd : double.add (fInt sec) (quoW W) = some (secs W) := by
    have : double.add (fInt sec) (quoW W) = some r := e1
    unfold secs
    rw [← hsec, this]
    rfl
  have hr : secs W = r := by
    have : double.add (fInt sec) (quoW W) = some r := e1
    rw [hadd] at this
    exact Option.some.inj this
  refine ⟨hadd, ((2 ^ u : Nat) : Int), v, hU, by rw [hr]; exact e2, ⟨s1, m1, i1, r1, v1⟩, ?_, ?_, ?_, ?_, ?_, ?_, ?_, ?_⟩
  · intro h
    have hc0 := q3 h
    exact Int.le_antisymm (hhi sec (by omega)) (hlo sec (by omega))
  · intro h
    have hs := hnb.1 (by omega)
    have hc0 : 0 ≤ c ∧ c ≤ ((2 ^ u : Nat) : Int) := by
      rcases Int.lt_trichotomy ns 0 with h' | h' | h'
      · omega
      · have := q3 h'; omega
      · have := q4 h'; omega
    refine ⟨hlo sec (by omega), hhi (sec + 1) ?_⟩
    rw [Int.add_mul, Int.one_mul]; omega
  · intro h
    have hc0 : c ≤ 0 ∧ -((2 ^ u : Nat) : Int) ≤ c := by
      have hs := hnb.2.1 (by omega)
      rcases Int.lt_trichotomy ns 0 with h' | h' | h'
      · have := q5 h'; omega
      · have := q3 h'; omega
      · omega
    refine ⟨hlo (sec - 1) ?_, hhi sec (by omega)⟩
    rw [Int.sub_mul, Int.one_mul]; omega
  · intro h
    apply hp
    have hs := hnb.1 (by omega)
    have hm : 0 ≤ sec * ((2 ^ u : Nat) : Int) := Int.mul_nonneg hs.2 (by omega)
    rcases Int.lt_trichotomy ns 0 with h' | h' | h'
    · omega
    · have hc0 := q3 h'
      have : 0 < sec * ((2 ^ u : Nat) : Int) := Int.mul_pos (by omega) hU
      omega
    · have := q4 h'; omega
  · intro h
    apply hn
    have hs := hnb.2.1 (by omega)
    have hm : sec * ((2 ^ u : Nat) : Int) ≤ 0 := Int.mul_nonpos_of_nonpos_of_nonneg hs.2 (by omega)
    rcases Int.lt_trichotomy ns 0 with h' | h' | h'
    · have := q5 h'; omega
    · have hc0 := q3 h'
      have : sec * ((2 ^ u : Nat) : Int) < 0 := Int.mul_neg_of_neg_of_pos (by omega) hU
      omega
    · omega
  · intro h
    have hs0 : sec = 0 ∧ ns = 0 := by
      have a := hnb.1 (by omega)
      have b := hnb.2.1 (by omega)
      omega
    have hc0 := q3 hs0.2
    have a := hhi 0 (by rw [hs0.1, hc0]; omega)
    have b := hlo 0 (by rw [hs0.1, hc0]; omega)
    omega
  · obtain ⟨k, hk⟩ : ∃ k : Nat, k = 1022 := ⟨_, rfl⟩
    have h1' : (2 ^ u : Nat) = 4503599627370496 * 2 ^ k := by
      have e : 52 + k = u := by omega
      rw [← e, Nat.pow_add]
    obtain ⟨r, c1, e1, e2, hlo, hhi, _, _⟩ := add_num u hu (a := sec * ((2 ^ u : Nat) : Int)) (b := 1 * ((2 ^ u : Nat) : Int)) ⟨s1, m1, i1, r1, v1⟩ ⟨false, 4503599627370496, k, read1' k hk, by rw [signed_eq, h1']; simp⟩ (bound_of u sec _ (by omega) (by omega))
    refine ⟨r, e1, ?_⟩
    have : c1 = (sec + 1) * ((2 ^ u : Nat) : Int) := Int.le_antisymm (hhi (sec + 1) (by rw [Int.add_mul]; omega)) (hlo (sec + 1) (by rw [Int.add_mul]; omega))
    rw [← this]; exact e2
  · obtain ⟨k, hk⟩ : ∃ k : Nat, k = 1022 := ⟨_, rfl⟩
    have h1' : (2 ^ u : Nat) = 4503599627370496 * 2 ^ k := by
      have e : 52 + k = u := by omega
      rw [← e, Nat.pow_add]
    obtain ⟨r, c1, e1, e2, hlo, hhi, _, _⟩ := add_num u hu (a := sec * ((2 ^ u : Nat) : Int)) (b := -1 * ((2 ^ u : Nat) : Int)) (d2 := (double.read B1).opposite) ⟨s1, m1, i1, r1, v1⟩ ⟨true, 4503599627370496, k, by rw [read1' k hk]; rfl, by rw [signed_eq, h1']; simp⟩ (bound_of u sec _ (by omega) (by omega))
    refine ⟨r, e1, ?_⟩
    have : c1 = (sec - 1) * ((2 ^ u : Nat) : Int) := Int.le_antisymm (hhi (sec - 1) (by rw [Int.sub_mul]; omega)) (hlo (sec - 1) (by rw [Int.sub_mul]; omega))
    rw [← this]; exact e2

end Go.Proofs.Qxb6628611a.Fl
