/-
  THE PLAIN LAWS of FnLiteralEndReadsIntegerTextsAndWords: decimal texts (no leading zero), and that literalEnd reads them, and the three words, whole.
-/
import Derived.Test.Qxb6602755aPlainSpan
namespace Go.Proofs.Qxb6602755a

/-- Where the decimal loop stands: D is written, u is still to be written. -/
structure DS (u : Nat) (D : List Int) : Prop where
  ne : D ≠ []
  dig : ∀ c ∈ D, 48 ≤ c ∧ c ≤ 57
  bound : u * 10 ^ D.length ≤ 9223372036854775808
  lead : u = 0 → D.head? ≠ some 48 ∨ D.length = 1

theorem mod10 (u : Nat) : (48 : Int) ≤ 48 + ((u % 10 : Nat) : Int) ∧ 48 + ((u % 10 : Nat) : Int) ≤ 57 := by omega

theorem DS.start (u : Nat) (h : u ≤ 9223372036854775808) : DS (u / 10) [48 + ((u % 10 : Nat) : Int)] where
  ne := by simp
  dig := by intro c hc; simp only [List.mem_singleton] at hc; rw [hc]; exact mod10 u
  bound := by simp only [List.length_singleton]; omega
  lead := fun _ => .inr rfl

theorem DS.step {u : Nat} {D : List Int} (h : DS u D) (hu : 0 < u) : DS (u / 10) ((48 + ((u % 10 : Nat) : Int)) :: D) where
  ne := by simp
  dig := by
    intro c hc
    rw [List.mem_cons] at hc
    rcases hc with hc | hc
    · rw [hc]; exact mod10 u
    · exact h.dig c hc
  bound := by
    have hb := h.bound
    rw [List.length_cons, Nat.pow_succ]
    refine Nat.le_trans ?_ hb
    have : u / 10 * (10 ^ D.length * 10) = (u / 10 * 10) * 10 ^ D.length := by
      rw [Nat.mul_comm (10 ^ D.length) 10, Nat.mul_assoc]
    rw [this]
    exact Nat.mul_le_mul_right _ (by omega)
  lead := by
    intro h0
    refine .inl ?_
    simp only [List.head?_cons, ne_eq, Option.some.injEq]
    omega

theorem DS.short {u : Nat} {D : List Int} (h : DS u D) (hu : 0 < u) : D.length ≤ 18 := by
  rcases Nat.lt_or_ge D.length 19 with h' | h'
  · omega
  · exfalso
    have h1 : 10 ^ 19 ≤ 10 ^ D.length := Nat.pow_le_pow_right (by omega) h'
    have h2 : 10 ^ D.length ≤ u * 10 ^ D.length := Nat.le_mul_of_pos_left _ hu
    have h3 := h.bound
    have h4 : (10 : Nat) ^ 19 = 10000000000000000000 := by decide
    omega

/-- A decimal text without its sign. -/
structure Dec (D : List Int) : Prop where
  ne : D ≠ []
  dig : ∀ c ∈ D, 48 ≤ c ∧ c ≤ 57
  lead : D.head? ≠ some 48 ∨ D.length = 1

theorem DS.dec {D : List Int} (h : DS 0 D) : Dec D := ⟨h.ne, h.dig, h.lead rfl⟩

/-- What follows cannot continue a number. -/
def stop (r : List Int) : Prop := digs r = 0 ∧ hd r 46 = false ∧ hd r 101 = false ∧ hd r 69 = false

theorem stop_nil : stop [] := ⟨rfl, rfl, rfl, rfl⟩
theorem stop_cons {c : Int} {r : List Int} (h1 : ¬ (48 ≤ c ∧ c ≤ 57)) (h2 : ¬ c = 46) (h3 : ¬ c = 101) (h4 : ¬ c = 69) : stop (c :: r) := by
  have hi : isD c = false := by
    unfold isD; rw [Bool.and_eq_false_iff]; simp only [decide_eq_false_iff_not]; omega
  refine ⟨?_, ?_, ?_, ?_⟩
  · unfold digs; rw [List.takeWhile_cons, hi]; rfl
  · unfold hd; simp [h2]
  · unfold hd; simp [h3]
  · unfold hd; simp [h4]

theorem stop_frac {r : List Int} (h : stop r) : fracP r = (0, true) := by
  unfold fracP expP isE; simp [h.2.1, h.2.2.1, h.2.2.2]

theorem digs_all (D r : List Int) (h : ∀ c ∈ D, 48 ≤ c ∧ c ≤ 57) : digs (D ++ r) = D.length + digs r := by
  induction D with
  | nil => simp
  | cons c D ih =>
    have hc := h c (by simp)
    have hi : isD c = true := by unfold isD; simp [hc.1, hc.2]
    have := ih (fun x hx => h x (by simp [hx]))
    unfold digs at this ⊢
    rw [List.cons_append, List.takeWhile_cons, hi]
    simp only [if_true, List.length_cons]
    omega

theorem hd_dec {D : List Int} (h : Dec D) (r : List Int) (c : Int) (hc : ¬ (48 ≤ c ∧ c ≤ 57)) : hd (D ++ r) c = false := by
  cases D with
  | nil => exact absurd rfl h.ne
  | cons a D =>
    have ha := h.dig a (by simp)
    unfold hd
    have : ¬ a = c := by intro e; subst e; exact hc ha
    simp [this]

theorem int_dec {D r : List Int} (h : Dec D) (hr : stop r) : intP (D ++ r) = (D.length, true) := by
  unfold intP
  by_cases hz : hd (D ++ r) 48 = true
  · have hl : D.length = 1 := by
      rcases h.lead with hl | hl
      · exfalso
        cases D with
        | nil => exact h.ne rfl
        | cons a D =>
          unfold hd at hz
          simp at hz hl
          exact hl hz
      · exact hl
    have e : (D ++ r).drop 1 = r := by
      rw [← hl, List.drop_left]
    rw [hz, if_pos rfl, e, stop_frac hr, hl]; rfl
  · have hz' : hd (D ++ r) 48 = false := by simpa using hz
    rw [hz', digs_all D r h.dig, hr.1, Nat.add_zero]
    have hn : ¬ D.length = 0 := by
      intro e; exact h.ne (List.eq_nil_of_length_eq_zero e)
    simp only [Bool.false_eq_true, if_false, hn]
    rw [List.drop_left, stop_frac hr]; rfl

theorem pre_head {W m : List Int} {c : Int} (hW : W.head? = some c) (h : hd m c = false) : pre W m = false := by
  cases W with
  | nil => simp at hW
  | cons a W =>
    simp at hW
    subst hW
    cases m with
    | nil => rfl
    | cons b m =>
      unfold hd at h
      unfold pre
      simp at h
      have : ¬ a = b := fun e => h e.symm
      simp [List.isPrefixOf, this]

/-- A signed decimal text is read whole. -/
theorem lit_pos {D r : List Int} (h : Dec D) (hr : stop r) : lit (D ++ r) = (D.length, true) := by
  unfold lit
  rw [pre_head (W := W0) rfl (hd_dec h r 116 (by omega)), pre_head (W := W1) rfl (hd_dec h r 102 (by omega)), pre_head (W := W2) rfl (hd_dec h r 110 (by omega))]
  simp only [Bool.false_eq_true, if_false]
  unfold numP
  rw [hd_dec h r 45 (by omega)]
  simp only [Bool.false_eq_true, if_false]
  exact int_dec h hr

theorem lit_neg {D r : List Int} (h : Dec D) (hr : stop r) : lit ((45 :: D) ++ r) = ((45 :: D).length, true) := by
  unfold lit
  rw [pre_head (W := W0) rfl (by rfl), pre_head (W := W1) rfl (by rfl), pre_head (W := W2) rfl (by rfl)]
  simp only [Bool.false_eq_true, if_false]
  unfold numP
  have e : hd ((45 :: D) ++ r) 45 = true := rfl
  rw [e, if_pos rfl]
  show plus 1 (intP (D ++ r)) = _
  rw [int_dec h hr]
  simp [plus, Nat.add_comm]

theorem lit_W0 (r : List Int) : lit (W0 ++ r) = (4, true) := rfl
theorem lit_W1 (r : List Int) : lit (W1 ++ r) = (5, true) := rfl
theorem lit_W2 (r : List Int) : lit (W2 ++ r) = (4, true) := rfl

theorem litE_zero (l : List Int) (r : Nat × Bool) (h : lit l = r) : litE l 0 = r.1 ∧ litO l 0 = r.2 := by
  unfold litE litO litA; rw [List.drop_zero, h]; simp [plus]

end Go.Proofs.Qxb6602755a
