/-
  THE PLAIN LAWS of FnLiteralEndAgreesWithNumberAutomaton: the number automaton and the reader answer alike.
-/
import Derived.Test.Qxb6602755aPlainSpan
namespace Go.Proofs.Qxb6602755a

/-- The automaton's step, on numbers: 0 start, 1 minus, 2 zero, 3 int, 4 dot, 5 frac, 6 exp, 7 sign, 8 exp digits, 9 dead. -/
def stp (st : Nat) (c : Int) : Nat :=
  match st with
  | 0 => if c = 45 then 1 else if c = 48 then 2 else if isD c then 3 else 9
  | 1 => if c = 48 then 2 else if isD c then 3 else 9
  | 2 => if c = 46 then 4 else if c = 101 ∨ c = 69 then 6 else 9
  | 3 => if isD c then 3 else if c = 46 then 4 else if c = 101 ∨ c = 69 then 6 else 9
  | 4 => if isD c then 5 else 9
  | 5 => if isD c then 5 else if c = 101 ∨ c = 69 then 6 else 9
  | 6 => if c = 43 ∨ c = 45 then 7 else if isD c then 8 else 9
  | 7 => if isD c then 8 else 9
  | 8 => if isD c then 8 else 9
  | _ => 9

def acc (st : Nat) : Bool := st == 2 || st == 3 || st == 5 || st == 8

/-- How many are read from state st on, and whether it accepts there. -/
def run (st : Nat) : List Int → Nat × Bool
  | [] => (0, acc st)
  | c :: r => if stp st c = 9 then (0, acc st) else plus 1 (run (stp st c) r)

theorem plus_eq (n : Nat) (r : Nat × Bool) : plus n r = (n + r.1, r.2) := rfl

theorem digs_cons_yes {c : Int} {r : List Int} (h : isD c = true) : digs (c :: r) = digs r + 1 := by
  unfold digs; rw [List.takeWhile_cons, h]; rfl
theorem digs_cons_no {c : Int} {r : List Int} (h : isD c = false) : digs (c :: r) = 0 := by
  unfold digs; rw [List.takeWhile_cons, h]; rfl
theorem hd_cons (c : Int) (r : List Int) (x : Int) : hd (c :: r) x = (c == x) := rfl

theorem isD_ne {c x : Int} (h : isD c = true) (hx : x < 48 ∨ 57 < x) : ¬ c = x := by
  unfold isD at h; simp at h; omega

theorem run8 (m : List Int) : run 8 m = (digs m, true) := by
  induction m with
  | nil => rfl
  | cons c r ih =>
    by_cases h : isD c = true
    · rw [run, digs_cons_yes h]; simp [stp, h, ih, plus, Nat.add_comm]
    · have h' : isD c = false := by simpa using h
      rw [run, digs_cons_no h']; simp [stp, h', acc]

theorem run7 (m : List Int) : run 7 m = expD 0 m := by
  unfold expD
  rw [List.drop_zero]
  cases m with
  | nil => rfl
  | cons c r =>
    by_cases h : isD c = true
    · rw [run, digs_cons_yes h]; simp [stp, h, run8, plus]; omega
    · have h' : isD c = false := by simpa using h
      rw [run, digs_cons_no h']; simp [stp, h', acc]

theorem run6 (m : List Int) : run 6 m = expD (sgn m) m := by
  cases m with
  | nil => rfl
  | cons c r =>
    by_cases hs : c = 43 ∨ c = 45
    · have e : sgn (c :: r) = 1 := by unfold sgn; rw [hd_cons, hd_cons]; simp [hs]
      rw [run, e]
      have hst : stp 6 c = 7 := by simp [stp, hs]
      rw [hst, run7]
      unfold expD
      simp only [List.drop_zero, List.drop_succ_cons]
      by_cases hd0 : digs r = 0
      · simp [hd0, plus]
      · simp [hd0, plus]
    · have e : sgn (c :: r) = 0 := by
        unfold sgn; rw [hd_cons, hd_cons]
        have h1 : ¬ c = 43 := fun e => hs (.inl e)
        have h2 : ¬ c = 45 := fun e => hs (.inr e)
        simp [h1, h2]
      rw [e, ← run7, run, run]
      by_cases h : isD c = true
      · simp [stp, h, hs]
      · have h' : isD c = false := by simpa using h
        simp [stp, h', hs, acc]

theorem run_exp {st : Nat} (hacc : acc st = true) (m : List Int) (h : ∀ c r, m = c :: r → (c = 101 ∨ c = 69 → stp st c = 6) ∧ (¬ (c = 101 ∨ c = 69) → stp st c = 9)) : run st m = expP m := by
  cases m with
  | nil => rw [run, hacc]; rfl
  | cons c r =>
    have h := h c r rfl
    unfold expP isE
    rw [hd_cons, hd_cons]
    by_cases he : c = 101 ∨ c = 69
    · have hb : ((c == 101) || (c == 69)) = true := by simp [he]
      rw [run, h.1 he, hb, if_neg (by decide), if_pos rfl, run6]
      simp only [List.drop_succ_cons, List.drop_zero]
      unfold expD
      rw [Nat.add_comm 1 (sgn r), List.drop_succ_cons]
      by_cases hd0 : digs (r.drop (sgn r)) = 0
      · simp [hd0, plus, Nat.add_comm]
      · simp [hd0, plus]; omega
    · have hb : ((c == 101) || (c == 69)) = false := by
        have h1 : ¬ c = 101 := fun e => he (.inl e)
        have h2 : ¬ c = 69 := fun e => he (.inr e)
        simp [h1, h2]
      rw [run, h.2 he, hb, if_pos rfl, hacc]; rfl

theorem run5 (m : List Int) : run 5 m = plus (digs m) (expP (m.drop (digs m))) := by
  induction m with
  | nil => rfl
  | cons c r ih =>
    by_cases h : isD c = true
    · rw [run, digs_cons_yes h]
      have hst : stp 5 c = 5 := by simp [stp, h]
      rw [hst, if_neg (by decide), ih, List.drop_succ_cons, plus_plus, Nat.add_comm 1]
    · have h' : isD c = false := by simpa using h
      rw [digs_cons_no h', List.drop_zero]
      have : run 5 (c :: r) = expP (c :: r) := run_exp rfl _ (by
        intro c' r' e
        cases e
        refine ⟨fun he => by simp [stp, h', he], fun he => by simp [stp, h', he]⟩)
      rw [this]; simp [plus]

theorem run4 (m : List Int) : run 4 m = if digs m = 0 then (0, false) else plus (digs m) (expP (m.drop (digs m))) := by
  cases m with
  | nil => rfl
  | cons c r =>
    by_cases h : isD c = true
    · rw [run, digs_cons_yes h]
      have hst : stp 4 c = 5 := by simp [stp, h]
      rw [hst, if_neg (by decide), if_neg (by omega), run5, List.drop_succ_cons, plus_plus, Nat.add_comm 1]
    · have h' : isD c = false := by simpa using h
      rw [run, digs_cons_no h']
      simp [stp, h', acc]

theorem run_frac {st : Nat} (hacc : acc st = true) (m : List Int) (h : ∀ c r, m = c :: r → (c = 46 → stp st c = 4) ∧ (c = 101 ∨ c = 69 → stp st c = 6) ∧ (¬ c = 46 → ¬ (c = 101 ∨ c = 69) → stp st c = 9)) : run st m = fracP m := by
  cases m with
  | nil => rw [run, hacc]; rfl
  | cons c r =>
    have h := h c r rfl
    unfold fracP
    rw [hd_cons]
    by_cases he : c = 46
    · have hb : (c == 46) = true := by simp [he]
      rw [run, h.1 he, hb, if_neg (by decide), if_pos rfl, run4]
      simp only [List.drop_succ_cons, List.drop_zero]
      by_cases hd0 : digs r = 0
      · simp [hd0, plus]
      · simp only [hd0, if_false]
        rw [plus_plus, Nat.add_comm 1 (digs r), List.drop_succ_cons]
    · have hb : (c == 46) = false := by simp [he]
      rw [hb, if_neg (by decide)]
      exact run_exp hacc _ (by
        intro c' r' e
        cases e
        exact ⟨h.2.1, h.2.2 he⟩)

theorem run2 (m : List Int) : run 2 m = fracP m := run_frac rfl _ (by
  intro c r _
  refine ⟨fun he => by simp [stp, he], fun he => ?_, fun h1 h2 => by simp [stp, h1, h2]⟩
  have : ¬ c = 46 := by omega
  simp [stp, this, he])

theorem run3 (m : List Int) : run 3 m = plus (digs m) (fracP (m.drop (digs m))) := by
  induction m with
  | nil => rfl
  | cons c r ih =>
    by_cases h : isD c = true
    · rw [run, digs_cons_yes h]
      have hst : stp 3 c = 3 := by simp [stp, h]
      rw [hst, if_neg (by decide), ih, List.drop_succ_cons, plus_plus, Nat.add_comm 1]
    · have h' : isD c = false := by simpa using h
      rw [digs_cons_no h', List.drop_zero]
      have : run 3 (c :: r) = fracP (c :: r) := run_frac rfl _ (by
        intro c' r' e
        cases e
        refine ⟨fun he => by subst he; rfl, fun he => ?_, fun h1 h2 => by simp [stp, h', h1, h2]⟩
        have : ¬ c = 46 := by omega
        simp [stp, h', this, he])
      rw [this]; simp [plus]

theorem run_int {st : Nat} (hacc : acc st = false) (m : List Int) (h : ∀ c r, m = c :: r → (c = 48 → stp st c = 2) ∧ (¬ c = 48 → isD c = true → stp st c = 3) ∧ (isD c = false → stp st c = 9)) : run st m = intP m := by
  cases m with
  | nil => rw [run, hacc]; rfl
  | cons c r =>
    have h := h c r rfl
    unfold intP
    rw [hd_cons]
    by_cases he : c = 48
    · have hb : (c == 48) = true := by simp [he]
      rw [run, h.1 he, hb, if_neg (by decide), if_pos rfl, run2]
      rfl
    · have hb : (c == 48) = false := by simp [he]
      rw [hb, if_neg (by decide)]
      by_cases hd' : isD c = true
      · rw [run, h.2.1 he hd', digs_cons_yes hd', if_neg (by decide), if_neg (by omega), run3, List.drop_succ_cons, plus_plus, Nat.add_comm 1]
      · have h' : isD c = false := by simpa using hd'
        rw [run, h.2.2 h', digs_cons_no h', if_pos rfl, if_pos rfl, hacc]

theorem run1 (m : List Int) : run 1 m = intP m := run_int rfl _ (by
  intro c r _
  refine ⟨fun he => by simp [stp, he], fun h1 h2 => by simp [stp, h1, h2], fun h => ?_⟩
  have : ¬ c = 48 := by intro e; subst e; simp [isD] at h
  simp [stp, this, h])

/-- The automaton from its start, and the reader of a number. -/
theorem run0 (m : List Int) : run 0 m = numP m := by
  unfold numP
  cases m with
  | nil => rfl
  | cons c r =>
    rw [hd_cons]
    by_cases he : c = 45
    · have hb : (c == 45) = true := by simp [he]
      have hst : stp 0 c = 1 := by simp [stp, he]
      rw [run, hst, hb, if_neg (by decide), if_pos rfl, run1]
      rfl
    · have hb : (c == 45) = false := by simp [he]
      rw [hb, if_neg (by decide)]
      exact run_int rfl _ (by
        intro c' r' e
        cases e
        refine ⟨fun h => by simp [stp, h], fun h1 h2 => by simp [stp, he, h1, h2], fun h => ?_⟩
        have : ¬ c = 48 := by intro e; subst e; simp [isD] at h
        simp [stp, he, this, h])

end Go.Proofs.Qxb6602755a
