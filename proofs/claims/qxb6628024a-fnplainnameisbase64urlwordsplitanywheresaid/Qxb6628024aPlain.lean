/-
  THE PLAIN SIDE: which bytes a plain name may hold; no Go in sight.
-/
namespace Go.Proofs.Qxb6628024a.P

/-- A letter, a digit, '-' or '_', said of the byte's number. -/
def okI (c : Int) : Bool := decide ((97 ≤ c ∧ c ≤ 122) ∨ (65 ≤ c ∧ c ≤ 90) ∨ (48 ≤ c ∧ c ≤ 57) ∨ c = 45 ∨ c = 95)

def okB (b : UInt8) : Bool := okI (b.toNat : Int)

/-- Every byte is one of them. -/
def allOk (l : List UInt8) : Bool := l.all okB

/-- Not empty, and every byte is one of them. -/
def plain (l : List UInt8) : Bool := !l.isEmpty && allOk l

theorem okI_t {c : Int} (h : (97 ≤ c ∧ c ≤ 122) ∨ (65 ≤ c ∧ c ≤ 90) ∨ (48 ≤ c ∧ c ≤ 57) ∨ c = 45 ∨ c = 95) : okI c = true := by
  unfold okI; exact decide_eq_true h

theorem okI_f {c : Int} (h : ¬ ((97 ≤ c ∧ c ≤ 122) ∨ (65 ≤ c ∧ c ≤ 90) ∨ (48 ≤ c ∧ c ≤ 57) ∨ c = 45 ∨ c = 95)) : okI c = false := by
  unfold okI; exact decide_eq_false h

theorem allOk_nil : allOk [] = true := rfl

theorem allOk_snoc (l : List UInt8) (b : UInt8) : allOk (l ++ [b]) = (allOk l && okB b) := by
  simp [allOk]

theorem allOk_append (l m : List UInt8) : allOk (l ++ m) = (allOk l && allOk m) := by
  simp [allOk]

theorem getD_at (l : List UInt8) (k : Nat) (h : k < l.length) : l.getD k 0 = l[k] := by
  simp [List.getD, List.getElem?_eq_getElem h]

theorem take_snoc (s : ByteArray) (k : Nat) (h : k < s.size) : s.data.toList.take (k + 1) = s.data.toList.take k ++ [s.data.toList.getD k 0] := by
  have h' : k < s.data.toList.length := by simpa using h
  rw [List.take_succ_eq_append_getElem h', getD_at _ _ h']

theorem allOk_take_t (s : ByteArray) (k : Nat) (h : k < s.size) (h0 : allOk (s.data.toList.take k) = true) (h1 : okB (s.data.toList.getD k 0) = true) :
    allOk (s.data.toList.take (k + 1)) = true := by
  rw [take_snoc s k h, allOk_snoc, h0, h1]; rfl

theorem allOk_f_of (l : List UInt8) (k : Nat) (h : k < l.length) (h1 : okB (l.getD k 0) = false) : allOk l = false := by
  unfold allOk
  rw [List.all_eq_false]
  refine ⟨l[k], List.getElem_mem h, ?_⟩
  rw [getD_at _ _ h] at h1
  simp [h1]

theorem allOk_whole (s : ByteArray) (k : Nat) (h : ¬ k < s.size) (h0 : allOk (s.data.toList.take k) = true) : allOk s.data.toList = true := by
  rwa [List.take_of_length_le (by simp; omega)] at h0

/-- The 64 letters of the alphabet, as the Go text lays them. -/
def alpha : ByteArray := ⟨#[65, 66, 67, 68, 69, 70, 71, 72, 73, 74, 75, 76, 77, 78, 79, 80, 81, 82, 83, 84, 85, 86, 87, 88, 89, 90, 97, 98, 99, 100, 101, 102, 103, 104, 105, 106, 107, 108, 109, 110, 111, 112, 113, 114, 115, 116, 117, 118, 119, 120, 121, 122, 48, 49, 50, 51, 52, 53, 54, 55, 56, 57, 45, 95]⟩

def alphaI (j : Nat) : Int := ((alpha.data.toList.getD j 0).toNat : Int)

theorem alpha_size : alpha.size = 64 := rfl

theorem alpha_at (k : Nat) (h : k < alpha.size) : (((alpha[k]'h).toNat : Nat) : Int) = alphaI k := by
  unfold alphaI
  have h' : k < alpha.data.toList.length := h
  rw [getD_at _ _ h']
  rfl

theorem alpha_ok : ∀ j, j < 64 → okI (alphaI j) = true := by decide +kernel

theorem ok_alpha : ∀ n, n < 256 → okI ((n : Nat) : Int) = true → ∃ j, j < 64 ∧ alphaI j = ((n : Nat) : Int) := by decide +kernel

theorem ok_none (c : Int) (h0 : 0 ≤ c) (h1 : c ≤ 255) (h : ∀ j, j < 64 → alphaI j ≠ c) : okI c = false := by
  cases e : okI c with
  | false => rfl
  | true =>
    obtain ⟨n, rfl⟩ := Int.eq_ofNat_of_zero_le h0
    obtain ⟨j, hj, hc⟩ := ok_alpha n (by omega) e
    exact absurd hc (h j hj)

theorem at_getD (s : ByteArray) (k : Nat) (h : k < s.size) : s[k] = s.data.toList.getD k 0 := by
  have h' : k < s.data.toList.length := by simpa using h
  rw [getD_at _ _ h']
  rfl

theorem allOk_cut (l : List UInt8) (i : Nat) : allOk l = (allOk (l.take i) && allOk (l.drop i)) := by
  rw [← allOk_append, List.take_append_drop]

theorem byte_of (c : Int) (h0 : 0 ≤ c) (h1 : c ≤ 255) : ∃ b : UInt8, c = (b.toNat : Int) := by
  refine ⟨UInt8.ofNat c.toNat, ?_⟩
  rw [UInt8.toNat_ofNat']
  omega

theorem plain_one (b : UInt8) : plain [b] = okI (b.toNat : Int) := by
  simp [plain, allOk, okB]

/-- The string with b put in at i. -/
def put (l : List UInt8) (i : Nat) (b : UInt8) : List UInt8 := l.take i ++ [b] ++ l.drop i

theorem put_pos (l : List UInt8) (i : Nat) (b : UInt8) : 0 < (put l i b).length := by
  simp [put]; omega

theorem put_len (l : List UInt8) (i : Nat) (b : UInt8) : (put l i b).length = l.length + 1 := by
  simp [put]; omega

theorem plain_put (l : List UInt8) (i : Nat) (b : UInt8) : plain (put l i b) = (allOk l && okI (b.toNat : Int)) := by
  have h : allOk l = (allOk (l.take i) && allOk (l.drop i)) := by rw [← allOk_append, List.take_append_drop]
  have h1 : allOk [b] = okI (b.toNat : Int) := by simp [allOk, okB]
  have h2 : (put l i b).isEmpty = false := by simp [put]
  unfold plain
  rw [h2, h, put, allOk_append, allOk_append, h1]
  cases allOk (l.take i) <;> cases allOk (l.drop i) <;> cases okI (b.toNat : Int) <;> rfl

end Go.Proofs.Qxb6628024a.P
