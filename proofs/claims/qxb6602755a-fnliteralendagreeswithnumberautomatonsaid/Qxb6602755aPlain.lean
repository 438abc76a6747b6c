/-
  THE PLAIN LAWS of literalEnd, with no Go in sight: a literal read off a list of numbers (bytes): how many are read, and whether it is accepted.
-/
import Derived.Lib.Strings
namespace Go.Proofs.Qxb6602755a

def isD (c : Int) : Bool := decide (48 ≤ c) && decide (c ≤ 57)
def digs (l : List Int) : Nat := (l.takeWhile isD).length
def hd (l : List Int) (c : Int) : Bool := l.head? == some c
def plus (n : Nat) (r : Nat × Bool) : Nat × Bool := (n + r.1, r.2)
def sgn (l : List Int) : Nat := if hd l 43 || hd l 45 then 1 else 0
def isE (l : List Int) : Bool := hd l 101 || hd l 69
def expD (g : Nat) (l : List Int) : Nat × Bool := if digs (l.drop g) = 0 then (g, false) else (g + digs (l.drop g), true)
def expP (l : List Int) : Nat × Bool := if isE l then expD (1 + sgn (l.drop 1)) l else (0, true)
def fracP (l : List Int) : Nat × Bool := if hd l 46 then (if digs (l.drop 1) = 0 then (1, false) else plus (1 + digs (l.drop 1)) (expP (l.drop (1 + digs (l.drop 1))))) else expP l
def intP (l : List Int) : Nat × Bool := if hd l 48 then plus 1 (fracP (l.drop 1)) else if digs l = 0 then (0, false) else plus (digs l) (fracP (l.drop (digs l)))
def numP (l : List Int) : Nat × Bool := if hd l 45 then plus 1 (intP (l.drop 1)) else intP l

def W0 : List Int := [116, 114, 117, 101]
def W1 : List Int := [102, 97, 108, 115, 101]
def W2 : List Int := [110, 117, 108, 108]
def pre (p l : List Int) : Bool := p.isPrefixOf l
def lit (l : List Int) : Nat × Bool := if pre W0 l then (4, true) else if pre W1 l then (5, true) else if pre W2 l then (4, true) else numP l

/-- The answer at a position: where the literal ends, and whether it is accepted. -/
def litA (l : List Int) (pos : Nat) : Nat × Bool := plus pos (lit (l.drop pos))
def litE (l : List Int) (pos : Nat) : Nat := (litA l pos).1
def litO (l : List Int) (pos : Nat) : Bool := (litA l pos).2

theorem plus_plus (a b : Nat) (r : Nat × Bool) : plus a (plus b r) = plus (a + b) r := by
  unfold plus; simp [Nat.add_assoc]

/-- The byte at k (0 past the end): behind a name that simp does not open. -/
def el (l : List Int) (k : Nat) : Int := l.getD k 0

theorem drop_at (l : List Int) (k : Nat) (h : k < l.length) : l.drop k = el l k :: l.drop (k + 1) := by
  rw [List.drop_eq_getElem_cons h]; simp [el, List.getD, h]

theorem hd_at (l : List Int) (k : Nat) (h : k < l.length) (c : Int) : hd (l.drop k) c = (el l k == c) := by
  unfold hd
  rw [drop_at l k h]
  rfl

theorem hd_past (l : List Int) (k : Nat) (h : l.length ≤ k) (c : Int) : hd (l.drop k) c = false := by
  unfold hd
  rw [List.drop_eq_nil_of_le h]
  rfl

theorem digs_le (l : List Int) : digs l ≤ l.length := by
  unfold digs; exact (List.takeWhile_prefix isD).length_le

theorem digs_yes (l : List Int) (k : Nat) (h : k < l.length) (h1 : 48 ≤ el l k) (h2 : el l k ≤ 57) : digs (l.drop k) = digs (l.drop (k + 1)) + 1 := by
  unfold digs
  rw [drop_at l k h, List.takeWhile_cons]
  simp [isD, h1, h2]

theorem digs_no (l : List Int) (k : Nat) (h : k < l.length) (hn : ¬ (48 ≤ el l k ∧ el l k ≤ 57)) : digs (l.drop k) = 0 := by
  unfold digs
  rw [drop_at l k h, List.takeWhile_cons]
  have : isD (el l k) = false := by
    unfold isD; rw [Bool.and_eq_false_iff]; simp only [decide_eq_false_iff_not]; omega
  simp [this]

theorem digs_past (l : List Int) (k : Nat) (h : l.length ≤ k) : digs (l.drop k) = 0 := by
  unfold digs
  rw [List.drop_eq_nil_of_le h]; rfl

/-! ### The steps of the Go text: 'At f k': the rest is read by f from k on -/
def AtP (l : List Int) (pos : Nat) (f : List Int → Nat × Bool) (k : Nat) : Prop := litA l pos = plus k (f (l.drop k))

theorem digs_bound (l : List Int) (k : Nat) (h : k ≤ l.length) : k + digs (l.drop k) ≤ l.length := by
  have := digs_le (l.drop k); rw [List.length_drop] at this; omega

def noW (k : Nat) (m : List Int) : Prop := (1 ≤ k → pre W0 m = false) ∧ (2 ≤ k → pre W1 m = false) ∧ (3 ≤ k → pre W2 m = false)

theorem noW_zero (m : List Int) : noW 0 m := ⟨by omega, by omega, by omega⟩
theorem noW_one {m : List Int} (h : pre W0 m = false) : noW 1 m := ⟨fun _ => h, by omega, by omega⟩
theorem noW_two {m : List Int} (hn : noW 1 m) (h : pre W1 m = false) : noW 2 m := ⟨fun _ => hn.1 (by omega), fun _ => h, by omega⟩
theorem noW_three {m : List Int} (hn : noW 2 m) (h : pre W2 m = false) : noW 3 m := ⟨fun _ => hn.1 (by omega), fun _ => hn.2.1 (by omega), fun _ => h⟩

theorem lit_w0 (l : List Int) (pos : Nat) (h : pre W0 (l.drop pos) = true) : litE l pos = pos + 4 ∧ litO l pos = true := by
  unfold litE litO litA lit; simp [h, plus]
theorem lit_w1 (l : List Int) (pos : Nat) (hn : noW 1 (l.drop pos)) (h : pre W1 (l.drop pos) = true) : litE l pos = pos + 5 ∧ litO l pos = true := by
  unfold litE litO litA lit; simp [h, hn.1 (by omega), plus]
theorem lit_w2 (l : List Int) (pos : Nat) (hn : noW 2 (l.drop pos)) (h : pre W2 (l.drop pos) = true) : litE l pos = pos + 4 ∧ litO l pos = true := by
  unfold litE litO litA lit; simp [h, hn.1 (by omega), hn.2.1 (by omega), plus]

theorem at_num (l : List Int) (pos : Nat) (hn : noW 3 (l.drop pos)) : AtP l pos numP pos := by
  unfold AtP litA lit; simp [hn.1 (by omega), hn.2.1 (by omega), hn.2.2 (by omega)]

theorem at_sign_yes {l : List Int} {pos k : Nat} (h : AtP l pos numP k) (hk : k < l.length) (hc : el l k = 45) : AtP l pos intP (k + 1) := by
  unfold AtP at h ⊢
  rw [h, numP, hd_at l k hk, hc, if_pos (beq_self_eq_true _), plus_plus, List.drop_drop]

theorem at_sign_no {l : List Int} {pos k : Nat} (h : AtP l pos numP k) (hk : k < l.length) (hc : ¬ el l k = 45) : AtP l pos intP k := by
  unfold AtP at h ⊢
  rw [h, numP, hd_at l k hk, if_neg (by simp [hc])]

theorem at_zero {l : List Int} {pos k : Nat} (h : AtP l pos intP k) (hk : k < l.length) (hc : el l k = 48) : AtP l pos fracP (k + 1) := by
  unfold AtP at h ⊢
  rw [h, intP, hd_at l k hk, hc, if_pos (beq_self_eq_true _), plus_plus, List.drop_drop]

/-- no zero stands at k -/
def nz (l : List Int) (k : Nat) (c : Int) : Prop := hd (l.drop k) c = false

theorem nz_past {l : List Int} {k : Nat} (c : Int) (h : l.length ≤ k) : nz l k c := hd_past l k h c
theorem nz_at {l : List Int} {k : Nat} {c : Int} (hk : k < l.length) (h : ¬ el l k = c) : nz l k c := by
  unfold nz; rw [hd_at l k hk]; simp [h]

theorem hd_el {l : List Int} {k : Nat} {c : Int} (h : hd (l.drop k) c = true) : k < l.length ∧ el l k = c := by
  rcases Nat.lt_or_ge k l.length with hk | hk
  · rw [hd_at l k hk] at h; exact ⟨hk, by simpa using h⟩
  · rw [hd_past l k hk] at h; simp at h

theorem at_int_no {l : List Int} {pos k : Nat} (h : AtP l pos intP k) (hz : nz l k 48) (hd0 : digs (l.drop k) = 0) : litE l pos = k ∧ litO l pos = false := by
  unfold AtP at h
  unfold litE litO
  rw [h, intP, hz, hd0]; simp [plus]

theorem at_int_yes {l : List Int} {pos k : Nat} (h : AtP l pos intP k) (hz : nz l k 48) (hd0 : ¬ digs (l.drop k) = 0) : AtP l pos fracP (k + digs (l.drop k)) := by
  unfold AtP at h ⊢
  rw [h, intP, hz, if_neg (by decide), if_neg hd0, plus_plus, List.drop_drop]

theorem at_dot_bad {l : List Int} {pos k : Nat} (h : AtP l pos fracP k) (hk : k < l.length) (hc : el l k = 46) (hd0 : digs (l.drop (k + 1)) = 0) : litE l pos = k + 1 ∧ litO l pos = false := by
  unfold AtP at h
  unfold litE litO
  rw [h, fracP, hd_at l k hk, hc, if_pos (beq_self_eq_true _), List.drop_drop, hd0]; simp [plus]

theorem at_dot {l : List Int} {pos k : Nat} (h : AtP l pos fracP k) (hk : k < l.length) (hc : el l k = 46) (hd0 : ¬ digs (l.drop (k + 1)) = 0) : AtP l pos expP (k + 1 + digs (l.drop (k + 1))) := by
  unfold AtP at h ⊢
  rw [h, fracP, hd_at l k hk, hc, if_pos (beq_self_eq_true _), List.drop_drop, if_neg hd0, plus_plus, List.drop_drop]
  rw [← Nat.add_assoc]

theorem at_nodot {l : List Int} {pos k : Nat} (h : AtP l pos fracP k) (hz : nz l k 46) : AtP l pos expP k := by
  unfold AtP at h ⊢
  rw [h, fracP, hz]; rfl

theorem at_noexp {l : List Int} {pos k : Nat} (h : AtP l pos expP k) (h1 : nz l k 101) (h2 : nz l k 69) : litE l pos = k ∧ litO l pos = true := by
  unfold AtP at h
  unfold litE litO
  rw [h, expP, isE, h1, h2]; simp [plus]

def AtE (l : List Int) (pos : Nat) (k : Nat) : Prop := litA l pos = plus k (expD 0 (l.drop k))

theorem at_exp_sign {l : List Int} {pos k : Nat} (h : AtP l pos expP k) (hk : k < l.length) (hc : el l k = 101 ∨ el l k = 69) (hs : hd (l.drop (k + 1)) 43 = true ∨ hd (l.drop (k + 1)) 45 = true) : AtE l pos (k + 2) := by
  unfold AtP at h; unfold AtE
  have e : isE (l.drop k) = true := by unfold isE; rw [hd_at l k hk, hd_at l k hk]; simp [hc]
  have s : sgn ((l.drop k).drop 1) = 1 := by unfold sgn; rw [List.drop_drop]; simp [hs]
  rw [h, expP, if_pos e, s, expD, expD, List.drop_drop, List.drop_drop]
  show plus k (if digs (l.drop (k + 2)) = 0 then _ else _) = plus (k + 2) (if digs (l.drop (k + 2)) = 0 then _ else _)
  split <;> simp [plus] <;> omega

theorem at_exp_bare {l : List Int} {pos k : Nat} (h : AtP l pos expP k) (hk : k < l.length) (hc : el l k = 101 ∨ el l k = 69) (h1 : nz l (k + 1) 43) (h2 : nz l (k + 1) 45) : AtE l pos (k + 1) := by
  unfold AtP at h; unfold AtE
  have e : isE (l.drop k) = true := by unfold isE; rw [hd_at l k hk, hd_at l k hk]; simp [hc]
  have s : sgn ((l.drop k).drop 1) = 0 := by unfold sgn; rw [List.drop_drop, h1, h2]; rfl
  rw [h, expP, if_pos e, s, expD, expD, List.drop_drop, List.drop_drop]
  show plus k (if digs (l.drop (k + 1)) = 0 then _ else _) = plus (k + 1) (if digs (l.drop (k + 1)) = 0 then _ else _)
  split <;> simp [plus] <;> omega

theorem at_exp_bad {l : List Int} {pos k : Nat} (h : AtE l pos k) (hd0 : digs (l.drop k) = 0) : litE l pos = k ∧ litO l pos = false := by
  unfold AtE at h
  unfold litE litO
  rw [h, expD, List.drop_zero, if_pos hd0]; simp [plus]

theorem at_exp_ok {l : List Int} {pos k : Nat} (h : AtE l pos k) (hd0 : ¬ digs (l.drop k) = 0) : litE l pos = k + digs (l.drop k) ∧ litO l pos = true := by
  unfold AtE at h
  unfold litE litO
  rw [h, expD, List.drop_zero, if_neg hd0]; simp [plus]

end Go.Proofs.Qxb6602755a
