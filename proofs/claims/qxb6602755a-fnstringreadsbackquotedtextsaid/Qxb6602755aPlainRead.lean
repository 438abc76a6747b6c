/-
  THE PLAIN LAWS of FnStringReadsBackQuotedText: what was quoted is read back, just where every byte is printable.
-/
import Derived.Test.Qxb6602755aPlainStr
namespace Go.Proofs.Qxb6602755a

def escC (c : UInt8) : List UInt8 := if c = 34 ∨ c = 92 then [92, c] else [c]
def escL (l : List UInt8) : List UInt8 := l.flatMap escC
/-- The opening quote and what is written so far. -/
def quoL (l : List UInt8) : List UInt8 := 34 :: escL l

theorem escC_le (c : UInt8) : (escC c).length ≤ 2 := by unfold escC; split <;> simp
theorem escL_le (l : List UInt8) : (escL l).length ≤ 2 * l.length := by
  unfold escL
  induction l with
  | nil => simp
  | cons c l ih => rw [List.flatMap_cons, List.length_append, List.length_cons]; have := escC_le c; omega
theorem quoL_le (l : List UInt8) : (quoL l).length ≤ 2 * l.length + 1 := by unfold quoL; rw [List.length_cons]; have := escL_le l; omega

theorem escL_snoc (l : List UInt8) (c : UInt8) : escL (l ++ [c]) = escL l ++ escC c := by
  unfold escL; rw [List.flatMap_append]; simp
theorem quoL_snoc (l : List UInt8) (c : UInt8) : quoL (l ++ [c]) = quoL l ++ escC c := by
  unfold quoL; rw [escL_snoc]; rfl

theorem escL_cons (c : UInt8) (l : List UInt8) : escL (c :: l) = escC c ++ escL l := by unfold escL; rw [List.flatMap_cons]

theorem aS_good (l : List UInt8) : ∀ (acc : List UInt8) (k : Nat) (rest : List UInt8), l.all isP = true → aS false acc k (escL l ++ 34 :: rest) = ⟨acc ++ l, k + (escL l).length + 1, true⟩ := by
  induction l with
  | nil => intro acc k rest _; simp [escL, aS]
  | cons c l ih =>
    intro acc k rest h
    rw [List.all_cons, Bool.and_eq_true] at h
    rw [escL_cons]
    unfold escC
    by_cases hc : c = 34 ∨ c = 92
    · have hq : isQ c = true := by unfold isQ; rcases hc with h | h <;> simp [h]
      rw [if_pos hc]
      simp only [List.cons_append, List.nil_append, aS, hq, if_true]
      simp only [Bool.false_eq_true, if_false]
      rw [ih _ _ _ h.2]
      simp; omega
    · rw [if_neg hc]
      have h1 : ¬ c = 92 := fun e => hc (.inr e)
      have h2 : ¬ c = 34 := fun e => hc (.inl e)
      simp only [List.cons_append, List.nil_append, aS, h1, h2, h.1, if_true, if_false, Bool.false_eq_true]
      rw [ih _ _ _ h.2]
      simp; omega

theorem aS_bad (l : List UInt8) : ∀ (acc : List UInt8) (k : Nat) (rest : List UInt8), l.all isP = false → (aS false acc k (escL l ++ 34 :: rest)).ok = false := by
  induction l with
  | nil => intro acc k rest h; simp at h
  | cons c l ih =>
    intro acc k rest h
    rw [List.all_cons] at h
    rw [escL_cons]
    unfold escC
    by_cases hc : c = 34 ∨ c = 92
    · have hq : isQ c = true := by unfold isQ; rcases hc with h | h <;> simp [h]
      have hp : isP c = true := by rcases hc with h | h <;> (rw [h]; decide)
      rw [hp, Bool.true_and] at h
      rw [if_pos hc]
      simp only [List.cons_append, List.nil_append, aS, hq, if_true]
      simp only [Bool.false_eq_true, if_false]
      exact ih _ _ _ h
    · rw [if_neg hc]
      have h1 : ¬ c = 92 := fun e => hc (.inr e)
      have h2 : ¬ c = 34 := fun e => hc (.inl e)
      by_cases hp : isP c = true
      · rw [hp, Bool.true_and] at h
        simp only [List.cons_append, List.nil_append, aS, h1, h2, hp, if_true, if_false, Bool.false_eq_true]
        exact ih _ _ _ h
      · simp only [List.cons_append, List.nil_append, aS, h1, h2, hp, if_false, Bool.false_eq_true]

/-- The text that is handed to the reader. -/
def wholeB (t r : ByteArray) : ByteArray := ⟨(quoL t.data.toList ++ [34] ++ r.data.toList).toArray⟩

theorem whole_drop (t r : ByteArray) : (wholeB t r).data.toList.drop 1 = escL t.data.toList ++ 34 :: r.data.toList := by
  unfold wholeB quoL; simp

theorem whole_size (t r : ByteArray) : (wholeB t r).size = (quoL t.data.toList).length + 1 + r.size := by
  rw [← size_list]; unfold wholeB
  simp only [List.length_append, List.length_cons, List.length_nil, size_list]

def allP (t : ByteArray) : Bool := t.data.toList.all isP

theorem whole_good (t r : ByteArray) (h : allP t = true) : strK (wholeB t r) 1 = 2 ∧ strT (wholeB t r) 1 = t ∧ strE (wholeB t r) 1 = (quoL t.data.toList).length + 1 ∧ strO (wholeB t r) 1 = true := by
  have e : strR (wholeB t r) 1 = ⟨t.data.toList, (quoL t.data.toList).length + 1, true⟩ := by
    unfold strR
    rw [whole_drop, aS_good _ _ _ _ h, quoL]
    simp; omega
  have := str_yes e
  exact ⟨this.1, this.2.1.trans (Lib.mk_data t), this.2.2⟩

theorem whole_bad (t r : ByteArray) (h : allP t = false) : strO (wholeB t r) 1 = false := by
  unfold strO strR
  rw [whole_drop]; exact aS_bad _ _ _ _ h

def allTo (t : ByteArray) (k : Nat) : Bool := (t.data.toList.take k).all isP
theorem allTo_zero (t : ByteArray) : allTo t 0 = true := by simp [allTo]
theorem take_snoc (s : ByteArray) (k : Nat) (h : k < s.size) : s.data.toList.take (k + 1) = s.data.toList.take k ++ [s[k]] := by
  rw [List.take_succ_eq_append_getElem (by simpa using h)]; rfl
theorem allTo_end (t : ByteArray) (k : Nat) (h : t.size ≤ k) : allTo t k = allP t := by
  unfold allTo allP; rw [List.take_of_length_le (by rw [size_list]; exact h)]
theorem allTo_bad (t : ByteArray) (k : Nat) (h : k < t.size) (hc : (t[k].toNat : Int) < 32 ∨ 126 < (t[k].toNat : Int)) : allTo t (k + 1) = false := by
  unfold allTo; rw [take_snoc t k h, List.all_append]; simp [isP_no hc]
theorem allTo_good (t : ByteArray) (k : Nat) (h : k < t.size) (h1 : ¬ (t[k].toNat : Int) < 32) (h2 : ¬ 126 < (t[k].toNat : Int)) : allTo t (k + 1) = allTo t k := by
  unfold allTo; rw [take_snoc t k h, List.all_append]; simp [isP_yes h1 h2]

end Go.Proofs.Qxb6602755a
