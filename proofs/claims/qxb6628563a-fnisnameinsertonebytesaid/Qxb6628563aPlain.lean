/-
  THE PLAIN SIDE: which bytes a name may hold; no Go in sight.
-/
namespace Go.Proofs.Qxb6628563a.P

/-- A lower-case letter, said of the byte's number. -/
def headI (c : Int) : Bool := decide (97 ≤ c ∧ c ≤ 122)

/-- A lower-case letter, a digit or '_'. -/
def tailI (c : Int) : Bool := decide ((97 ≤ c ∧ c ≤ 122) ∨ (48 ≤ c ∧ c ≤ 57) ∨ c = 95)

def headB (b : UInt8) : Bool := headI (b.toNat : Int)
def tailB (b : UInt8) : Bool := tailI (b.toNat : Int)

def allT (l : List UInt8) : Bool := l.all tailB

def isName (l : List UInt8) : Bool :=
  match l with
  | [] => false
  | c :: t => headB c && allT t

theorem headI_t {c : Int} (h : 97 ≤ c ∧ c ≤ 122) : headI c = true := decide_eq_true h
theorem headI_f {c : Int} (h : ¬ (97 ≤ c ∧ c ≤ 122)) : headI c = false := decide_eq_false h
theorem tailI_t {c : Int} (h : (97 ≤ c ∧ c ≤ 122) ∨ (48 ≤ c ∧ c ≤ 57) ∨ c = 95) : tailI c = true := decide_eq_true h
theorem tailI_f {c : Int} (h : ¬ ((97 ≤ c ∧ c ≤ 122) ∨ (48 ≤ c ∧ c ≤ 57) ∨ c = 95)) : tailI c = false := decide_eq_false h

theorem allT_nil : allT [] = true := rfl

theorem allT_append (l m : List UInt8) : allT (l ++ m) = (allT l && allT m) := by
  simp [allT]

theorem allT_one (b : UInt8) : allT [b] = tailB b := by
  simp [allT]

theorem getD_at (l : List UInt8) (k : Nat) (h : k < l.length) : l.getD k 0 = l[k] := by
  simp [List.getD, List.getElem?_eq_getElem h]

theorem take_snoc (l : List UInt8) (k : Nat) (h : k < l.length) : l.take (k + 1) = l.take k ++ [l.getD k 0] := by
  rw [List.take_succ_eq_append_getElem h, getD_at _ _ h]

theorem allT_take_t (l : List UInt8) (k : Nat) (h : k < l.length) (h0 : allT (l.take k) = true) (h1 : tailB (l.getD k 0) = true) :
    allT (l.take (k + 1)) = true := by
  rw [take_snoc l k h, allT_append, allT_one, h0, h1]; rfl

theorem allT_f_of (l : List UInt8) (k : Nat) (h : k < l.length) (h1 : tailB (l.getD k 0) = false) : allT l = false := by
  unfold allT
  rw [List.all_eq_false]
  refine ⟨l[k], List.getElem_mem h, ?_⟩
  rw [getD_at _ _ h] at h1
  simp [h1]

theorem allT_whole (l : List UInt8) (k : Nat) (h : ¬ k < l.length) (h0 : allT (l.take k) = true) : allT l = true := by
  rwa [List.take_of_length_le (by omega)] at h0

theorem isName_one (b : UInt8) : isName [b] = headB b := by
  simp [isName, allT]

theorem isName_a (l : List UInt8) : isName (97 :: l) = allT l := by
  have h : headB 97 = true := by decide
  simp [isName, h]

theorem isName_snoc (l : List UInt8) (b : UInt8) (h : 0 < l.length) : isName (l ++ [b]) = (isName l && tailB b) := by
  cases l with
  | nil => simp at h
  | cons c t =>
    show (headB c && allT (t ++ [b])) = ((headB c && allT t) && tailB b)
    rw [allT_append, allT_one, Bool.and_assoc]

theorem isName_step (l : List UInt8) (k : Nat) (h1 : 1 ≤ k) (h : k < l.length) : isName (l.take (k + 1)) = (isName (l.take k) && tailB (l.getD k 0)) := by
  rw [take_snoc l k h, isName_snoc _ _ (by simp; omega)]

theorem head_tail (b : UInt8) (h : headB b = true) : tailB b = true := by
  unfold headB headI at h
  exact tailI_t (.inl (of_decide_eq_true h))

theorem byte_of (c : Int) (h0 : 0 ≤ c) (h1 : c ≤ 255) : ∃ b : UInt8, c = (b.toNat : Int) := by
  refine ⟨UInt8.ofNat c.toNat, ?_⟩
  rw [UInt8.toNat_ofNat']
  omega

theorem ofNat_toNat (k : Nat) (h : k < 256) : ((UInt8.ofNat k).toNat : Int) = (k : Int) := by
  rw [UInt8.toNat_ofNat']; omega

/-- How many of the first k bytes may open a name. -/
def cntH (k : Nat) : Nat := ((List.range k).filter fun n : Nat => headI (n : Int)).length

/-- How many of the first k bytes may follow a letter. -/
def cntT (k : Nat) : Nat := ((List.range k).filter fun n : Nat => tailI (n : Int)).length

theorem cntH_succ (k : Nat) : cntH (k + 1) = cntH k + if headI (k : Int) = true then 1 else 0 := by
  unfold cntH
  rw [List.range_succ, List.filter_append, List.length_append]
  by_cases h : headI (k : Int) = true <;> simp [h]

theorem cntT_succ (k : Nat) : cntT (k + 1) = cntT k + if tailI (k : Int) = true then 1 else 0 := by
  unfold cntT
  rw [List.range_succ, List.filter_append, List.length_append]
  by_cases h : tailI (k : Int) = true <;> simp [h]

theorem cntH_le (k : Nat) : cntH k ≤ k := by
  unfold cntH
  have := List.length_filter_le (fun n : Nat => headI (n : Int)) (List.range k)
  simpa using this

theorem cntT_le (k : Nat) : cntT k ≤ k := by
  unfold cntT
  have := List.length_filter_le (fun n : Nat => tailI (n : Int)) (List.range k)
  simpa using this

theorem cntH_all : cntH 256 = 26 := by decide +kernel
theorem cntT_all : cntT 256 = 37 := by decide +kernel

theorem headI_tailI (c : Int) (h : headI c = true) : tailI c = true := by
  unfold headI at h
  exact tailI_t (.inl (of_decide_eq_true h))

/-- A byte put in behind the first place. -/
theorem put_late (l : List UInt8) (i : Nat) (b : UInt8) (h0 : 0 < i) (h : i ≤ l.length) : isName (l.take i ++ [b] ++ l.drop i) = (isName l && tailB b) := by
  cases l with
  | nil => simp at h; omega
  | cons c t =>
    obtain ⟨j, rfl⟩ : ∃ j, i = j + 1 := ⟨i - 1, by omega⟩
    show (headB c && allT (t.take j ++ [b] ++ t.drop j)) = ((headB c && allT t) && tailB b)
    have e : allT t = (allT (t.take j) && allT (t.drop j)) := by rw [← allT_append, List.take_append_drop]
    rw [allT_append, allT_append, allT_one, e]
    cases headB c <;> cases allT (t.take j) <;> cases allT (t.drop j) <;> cases tailB b <;> rfl

/-- A byte put in at the front. -/
theorem put_front (l : List UInt8) (b : UInt8) : isName ([b] ++ l) = (isName [b] && isName (97 :: l)) := by
  rw [isName_one, isName_a]; rfl

end Go.Proofs.Qxb6628563a.P
