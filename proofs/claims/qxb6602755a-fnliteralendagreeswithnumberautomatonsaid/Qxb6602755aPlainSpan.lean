/-
  THE PLAIN LAWS of FnLiteralEndReadsOnlyItsSpan: where a literal ends; that it is read the same way when it is cut at its end.
-/
import Derived.Test.Qxb6602755aPlain
namespace Go.Proofs.Qxb6602755a

theorem hd_take (m : List Int) (k : Nat) (hk : 0 < k) (c : Int) : hd (m.take k) c = hd m c := by
  unfold hd
  cases m with
  | nil => simp
  | cons a m => cases k with
    | zero => omega
    | succ k => rfl

theorem hd_nil (c : Int) : hd [] c = false := rfl

theorem digs_take (m : List Int) : ∀ k, digs (m.take k) = min k (digs m) := by
  unfold digs
  induction m with
  | nil => intro k; simp
  | cons a m ih =>
    intro k
    cases k with
    | zero => simp
    | succ k =>
      rw [List.take_succ_cons, List.takeWhile_cons, List.takeWhile_cons]
      by_cases h : isD a = true
      · simp only [h, if_true, List.length_cons]; rw [ih k]; omega
      · simp [h]

theorem take_drop (m : List Int) (a b : Nat) : (m.take (a + b)).drop a = (m.drop a).take b := by
  rw [List.drop_take]; congr 1; omega

theorem plus_two (a : Nat) (r : Nat × Bool) : (plus a r).2 = r.2 := rfl
theorem plus_one (a : Nat) (r : Nat × Bool) : (plus a r).1 = a + r.1 := rfl

theorem expP_cut (m : List Int) (h : (expP m).2 = true) : expP (m.take (expP m).1) = expP m := by
  unfold expP at h ⊢
  by_cases he : isE m = true
  · simp only [he, if_true] at h ⊢
    unfold expD at h ⊢
    by_cases hd0 : digs (m.drop (1 + sgn (m.drop 1))) = 0
    · rw [if_pos hd0] at h; exact absurd h (by simp)
    · simp only [hd0, if_false]
      have hg : sgn (m.drop 1) ≤ 1 := by unfold sgn; split <;> omega
      have e1 : isE (m.take (1 + sgn (m.drop 1) + digs (m.drop (1 + sgn (m.drop 1))))) = true := by
        unfold isE at he ⊢; rw [hd_take _ _ (by omega), hd_take _ _ (by omega)]; exact he
      have e2 : (m.take (1 + sgn (m.drop 1) + digs (m.drop (1 + sgn (m.drop 1))))).drop 1 = (m.drop 1).take (sgn (m.drop 1) + digs (m.drop (1 + sgn (m.drop 1)))) := by
        rw [← take_drop]; congr 2; omega
      have e3 : sgn ((m.drop 1).take (sgn (m.drop 1) + digs (m.drop (1 + sgn (m.drop 1))))) = sgn (m.drop 1) := by
        generalize hG : sgn (m.drop 1) = G at *
        unfold sgn; rw [hd_take _ _ (by omega), hd_take _ _ (by omega)]
        unfold sgn at hG; exact hG
      simp only [e1, if_true, e2, e3]
      rw [take_drop, digs_take, Nat.min_self, if_neg hd0]
  · simp only [he] at h ⊢
    simp [isE, hd_nil]

theorem expP_le (m : List Int) : (expP m).1 ≤ m.length := by
  unfold expP
  by_cases he : isE m = true
  · simp only [he, if_true]
    have h1 : 1 ≤ m.length := by
      cases m with
      | nil => simp [isE, hd_nil] at he
      | cons a m => simp
    have hg : 1 + sgn (m.drop 1) ≤ m.length := by
      unfold sgn
      split
      · rename_i hs
        have : 1 < m.length := by
          rcases Nat.lt_or_ge 1 m.length with h | h
          · exact h
          · rw [List.drop_eq_nil_of_le h] at hs; simp [hd_nil] at hs
        omega
      · omega
    have hd1 := digs_le (m.drop (1 + sgn (m.drop 1)))
    rw [List.length_drop] at hd1
    unfold expD
    split
    · show 1 + sgn (m.drop 1) ≤ _; omega
    · show 1 + sgn (m.drop 1) + digs (m.drop (1 + sgn (m.drop 1))) ≤ _; omega
  · simp [he]

theorem fracP_cut (m : List Int) (h : (fracP m).2 = true) : fracP (m.take (fracP m).1) = fracP m := by
  unfold fracP at h ⊢
  by_cases he : hd m 46 = true
  · simp only [he, if_true] at h ⊢
    by_cases hd0 : digs (m.drop 1) = 0
    · rw [if_pos hd0] at h; exact absurd h (by simp)
    · simp only [hd0, if_false, plus_two] at h ⊢
      rw [plus_one]
      have hc := expP_cut (m.drop (1 + digs (m.drop 1))) h
      rw [hd_take _ _ (by omega), he]
      have e2 : (m.take (1 + digs (m.drop 1) + (expP (m.drop (1 + digs (m.drop 1)))).1)).drop 1 = (m.drop 1).take (digs (m.drop 1) + (expP (m.drop (1 + digs (m.drop 1)))).1) := by
        rw [← take_drop]; congr 2; omega
      simp only [if_true, e2, digs_take, Nat.min_eq_right (Nat.le_add_right _ _), hd0, if_false]
      rw [take_drop, hc]
  · have he' : hd m 46 = false := by simpa using he
    simp only [he', Bool.false_eq_true, if_false] at h ⊢
    have hc := expP_cut m h
    rcases Nat.eq_zero_or_pos (expP m).1 with hz | hz
    · rw [hz, List.take_zero] at hc ⊢
      simpa [hd_nil] using hc
    · rw [hd_take _ _ hz, he', hc]; rfl

theorem fracP_le (m : List Int) : (fracP m).1 ≤ m.length := by
  unfold fracP
  by_cases he : hd m 46 = true
  · have h1 : 1 ≤ m.length := by
      cases m with
      | nil => simp [hd_nil] at he
      | cons a m => simp
    simp only [he, if_true]
    split
    · exact h1
    · rw [plus_one]
      have a := expP_le (m.drop (1 + digs (m.drop 1)))
      have b := digs_le (m.drop 1)
      rw [List.length_drop] at a b; omega
  · simp only [he]; exact expP_le m

theorem intP_cut (m : List Int) (h : (intP m).2 = true) : intP (m.take (intP m).1) = intP m ∧ 0 < (intP m).1 := by
  unfold intP at h ⊢
  by_cases he : hd m 48 = true
  · simp only [he, if_true, plus_two] at h ⊢
    rw [plus_one]
    have hc := fracP_cut (m.drop 1) h
    rw [hd_take _ _ (by omega), he]
    simp only [if_true]
    rw [take_drop, hc]
    exact ⟨rfl, by omega⟩
  · have he' : hd m 48 = false := by simpa using he
    simp only [he', Bool.false_eq_true, if_false] at h ⊢
    by_cases hd0 : digs m = 0
    · simp [hd0] at h
    · simp only [hd0, if_false, plus_two] at h ⊢
      rw [plus_one]
      have hc := fracP_cut (m.drop (digs m)) h
      rw [hd_take _ _ (by omega), he']
      simp only [Bool.false_eq_true, if_false, digs_take, Nat.min_eq_right (Nat.le_add_right _ _), hd0]
      rw [take_drop, hc]
      exact ⟨rfl, by omega⟩

theorem intP_le (m : List Int) : (intP m).1 ≤ m.length := by
  unfold intP
  by_cases he : hd m 48 = true
  · have h1 : 1 ≤ m.length := by
      cases m with
      | nil => simp [hd_nil] at he
      | cons a m => simp
    simp only [he, if_true]
    rw [plus_one]
    have a := fracP_le (m.drop 1)
    rw [List.length_drop] at a; omega
  · simp only [he]
    by_cases hd0 : digs m = 0
    · simp [hd0]
    · simp only [hd0, if_false]
      have a := fracP_le (m.drop (digs m))
      have b := digs_le m
      rw [List.length_drop] at a
      show (plus (digs m) _).1 ≤ _
      rw [plus_one]; omega

theorem numP_cut (m : List Int) (h : (numP m).2 = true) : numP (m.take (numP m).1) = numP m ∧ 0 < (numP m).1 := by
  unfold numP at h ⊢
  by_cases he : hd m 45 = true
  · simp only [he, if_true, plus_two] at h ⊢
    rw [plus_one]
    have hc := intP_cut (m.drop 1) h
    rw [hd_take _ _ (by omega), he]
    simp only [if_true]
    rw [take_drop, hc.1]
    exact ⟨rfl, by omega⟩
  · have he' : hd m 45 = false := by simpa using he
    simp only [he', Bool.false_eq_true, if_false] at h ⊢
    have hc := intP_cut m h
    rw [hd_take _ _ hc.2, he']
    simp only [Bool.false_eq_true, if_false]
    exact hc

theorem numP_le (m : List Int) : (numP m).1 ≤ m.length := by
  unfold numP
  by_cases he : hd m 45 = true
  · have h1 : 1 ≤ m.length := by
      cases m with
      | nil => simp [hd_nil] at he
      | cons a m => simp
    simp only [he, if_true]
    rw [plus_one]
    have a := intP_le (m.drop 1)
    rw [List.length_drop] at a; omega
  · simp only [he]; exact intP_le m

theorem pre_len {W m : List Int} (h : pre W m = true) : W.length ≤ m.length := by
  unfold pre at h; rw [List.isPrefixOf_iff_prefix] at h; exact h.length_le

theorem pre_take_same {W m : List Int} (h : pre W m = true) : pre W (m.take W.length) = true := by
  unfold pre at h ⊢
  rw [List.isPrefixOf_iff_prefix] at h ⊢
  rw [← List.prefix_iff_eq_take.1 h]
  exact List.prefix_refl W

theorem pre_take_no {W m : List Int} (k : Nat) (h : pre W m = false) : pre W (m.take k) = false := by
  unfold pre at h ⊢
  rw [Bool.eq_false_iff] at h ⊢
  intro e
  apply h
  rw [List.isPrefixOf_iff_prefix] at e ⊢
  exact e.trans (List.take_prefix k m)

theorem lit_le (m : List Int) : (lit m).1 ≤ m.length := by
  unfold lit
  split
  · rename_i h; exact pre_len h
  · split
    · rename_i h; exact pre_len h
    · split
      · rename_i h; exact pre_len h
      · exact numP_le m

theorem lit_cut (m : List Int) (h : (lit m).2 = true) : lit (m.take (lit m).1) = lit m ∧ 0 < (lit m).1 := by
  unfold lit at h ⊢
  by_cases h0 : pre W0 m = true
  · have e : pre W0 (m.take 4) = true := pre_take_same h0
    simp [h0, e]
  · have h0' : pre W0 m = false := by simpa using h0
    by_cases h1 : pre W1 m = true
    · have e : pre W1 (m.take 5) = true := pre_take_same h1
      simp [h0', h1, e, pre_take_no 5 h0']
    · have h1' : pre W1 m = false := by simpa using h1
      by_cases h2 : pre W2 m = true
      · have e : pre W2 (m.take 4) = true := pre_take_same h2
        simp [h0', h1', h2, e, pre_take_no 4 h0', pre_take_no 4 h1']
      · have h2' : pre W2 m = false := by simpa using h2
        simp only [h0', h1', h2', Bool.false_eq_true, if_false] at h ⊢
        rw [pre_take_no _ h0', pre_take_no _ h1', pre_take_no _ h2']
        simpa using numP_cut m h

theorem litE_ge (l : List Int) (pos : Nat) : pos ≤ litE l pos := by
  unfold litE litA; rw [plus_one]; omega

theorem litE_le (l : List Int) (pos : Nat) (h : pos ≤ l.length) : litE l pos ≤ l.length := by
  unfold litE litA; rw [plus_one]
  have := lit_le (l.drop pos)
  rw [List.length_drop] at this; omega

theorem lit_shift (l : List Int) (pos : Nat) : litE (l.drop pos) 0 + pos = litE l pos ∧ litO (l.drop pos) 0 = litO l pos := by
  unfold litE litO litA
  rw [List.drop_zero]
  simp [plus]; omega

theorem lit_nonempty (l : List Int) (pos : Nat) (h : litO l pos = true) : pos < litE l pos := by
  unfold litO litA at h
  unfold litE litA; rw [plus_one]
  have := (lit_cut (l.drop pos) h).2
  omega

theorem lit_at_end (l : List Int) (pos : Nat) (h : litO l pos = true) : litE (l.take (litE l pos)) pos = litE l pos ∧ litO (l.take (litE l pos)) pos = true := by
  have hc := (lit_cut (l.drop pos) h).1
  have e : litA (l.take (litE l pos)) pos = litA l pos := by
    unfold litA
    congr 1
    rw [← hc]
    congr 1
    unfold litE litA
    rw [plus_one, take_drop]
  refine ⟨?_, ?_⟩
  · show (litA (l.take (litE l pos)) pos).1 = _; rw [e]; rfl
  · show (litA (l.take (litE l pos)) pos).2 = _; rw [e]; exact h

end Go.Proofs.Qxb6602755a
