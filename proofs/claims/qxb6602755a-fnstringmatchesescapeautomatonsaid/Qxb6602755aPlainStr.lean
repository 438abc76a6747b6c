/-
  THE PLAIN LAWS of sfParser.string: an automaton with one bit over a list of bytes.
-/
import Derived.Lib.Strings
namespace Go.Proofs.Qxb6602755a

structure SRes where
  text : List UInt8
  at_ : Nat
  ok : Bool

/-- Printable ASCII. -/
def isP (c : UInt8) : Bool := decide (32 ≤ c.toNat) && decide (c.toNat ≤ 126)
def isQ (c : UInt8) : Bool := c == 34 || c == 92

/-- What is read from position k on: 'esc': a backslash stands ahead; 'acc': the text so far. -/
def aS (esc : Bool) (acc : List UInt8) (k : Nat) : List UInt8 → SRes
  | [] => ⟨[], k, false⟩
  | c :: r =>
    if esc then (if isQ c then aS false (acc ++ [c]) (k + 1) r else ⟨[], k, false⟩)
    else if c = 92 then aS true acc (k + 1) r
    else if c = 34 then ⟨acc, k + 1, true⟩
    else if isP c then aS false (acc ++ [c]) (k + 1) r
    else ⟨[], k, false⟩

/-- The whole answer, from position k on. -/
def strR (s : ByteArray) (k : Nat) : SRes := aS false [] k (s.data.toList.drop k)
def strT (s : ByteArray) (k : Nat) : ByteArray := ⟨(strR s k).text.toArray⟩
def strE (s : ByteArray) (k : Nat) : Nat := (strR s k).at_
def strO (s : ByteArray) (k : Nat) : Bool := (strR s k).ok
/-- The item's kind: 2 on acceptance, 0 (the zero item) on refusal. -/
def strK (s : ByteArray) (k : Nat) : Int := if strO s k then 2 else 0

theorem size_list (s : ByteArray) : s.data.toList.length = s.size := by simp

theorem bdrop_at (s : ByteArray) (k : Nat) (h : k < s.size) : s.data.toList.drop k = s[k] :: s.data.toList.drop (k + 1) := by
  rw [List.drop_eq_getElem_cons (by simpa using h)]; rfl

theorem bdrop_past (s : ByteArray) (k : Nat) (h : s.size ≤ k) : s.data.toList.drop k = [] := by
  rw [List.drop_eq_nil_iff, size_list]; exact h

theorem u8_eq (c : UInt8) (n : Nat) (hn : n < 256) (h : (c.toNat : Int) = (n : Int)) : c = UInt8.ofNat n := by
  apply UInt8.toNat_inj.1
  rw [UInt8.toNat_ofNat']
  omega

theorem u8_ne (c : UInt8) (n : Nat) (hn : n < 256) (h : ¬ (c.toNat : Int) = (n : Int)) : ¬ c = UInt8.ofNat n := by
  intro e; apply h; rw [e, UInt8.toNat_ofNat']; omega

theorem isP_yes {c : UInt8} (h1 : ¬ (c.toNat : Int) < 32) (h2 : ¬ 126 < (c.toNat : Int)) : isP c = true := by
  unfold isP; simp; omega
theorem isP_no {c : UInt8} (h : (c.toNat : Int) < 32 ∨ 126 < (c.toNat : Int)) : isP c = false := by
  unfold isP; rw [Bool.and_eq_false_iff]; simp; omega
theorem isQ_yes {c : UInt8} (h : (c.toNat : Int) = 34 ∨ (c.toNat : Int) = 92) : isQ c = true := by
  unfold isQ
  rcases h with h | h
  · have : c = 34 := u8_eq c 34 (by omega) h
    simp [this]
  · have : c = 92 := u8_eq c 92 (by omega) h
    simp [this]
theorem isQ_no {c : UInt8} (h1 : ¬ (c.toNat : Int) = 34) (h2 : ¬ (c.toNat : Int) = 92) : isQ c = false := by
  have e1 : ¬ c = 34 := u8_ne c 34 (by omega) h1
  have e2 : ¬ c = 92 := u8_ne c 92 (by omega) h2
  unfold isQ; simp [e1, e2]

/-- 'The answer is what the automaton gives from here on.' -/
def SAt (s : ByteArray) (k0 : Nat) (esc : Bool) (acc : List UInt8) (k : Nat) : Prop := strR s k0 = aS esc acc k (s.data.toList.drop k)

theorem sat_start (s : ByteArray) (k0 : Nat) : SAt s k0 false [] k0 := rfl

theorem sat_end {s : ByteArray} {k0 : Nat} {esc : Bool} {acc : List UInt8} {k : Nat} (h : SAt s k0 esc acc k) (hk : s.size ≤ k) : strR s k0 = ⟨[], k, false⟩ := by
  unfold SAt at h; rw [bdrop_past s k hk] at h; rw [h]; simp [aS]

theorem sat_quote {s : ByteArray} {k0 : Nat} {acc : List UInt8} {k : Nat} (h : SAt s k0 false acc k) (hk : k < s.size) (hc : (s[k].toNat : Int) = 34) : strR s k0 = ⟨acc, k + 1, true⟩ := by
  have e : s[k] = 34 := u8_eq s[k] 34 (by omega) hc
  unfold SAt at h; rw [bdrop_at s k hk, e] at h; rw [h]; simp [aS]

theorem sat_back {s : ByteArray} {k0 : Nat} {acc : List UInt8} {k : Nat} (h : SAt s k0 false acc k) (hk : k < s.size) (hc : (s[k].toNat : Int) = 92) : SAt s k0 true acc (k + 1) := by
  have e : s[k] = 92 := u8_eq s[k] 92 (by omega) hc
  unfold SAt at h ⊢; rw [bdrop_at s k hk, e] at h; rw [h]; simp [aS]

theorem sat_bad {s : ByteArray} {k0 : Nat} {acc : List UInt8} {k : Nat} (h : SAt s k0 false acc k) (hk : k < s.size) (hc : (s[k].toNat : Int) < 32 ∨ 126 < (s[k].toNat : Int)) : strR s k0 = ⟨[], k, false⟩ := by
  have e1 : ¬ s[k] = 34 := u8_ne s[k] 34 (by omega) (by omega)
  have e2 : ¬ s[k] = 92 := u8_ne s[k] 92 (by omega) (by omega)
  unfold SAt at h; rw [bdrop_at s k hk] at h; rw [h]; simp [aS, e1, e2, isP_no hc]

theorem sat_plain {s : ByteArray} {k0 : Nat} {acc : List UInt8} {k : Nat} (h : SAt s k0 false acc k) (hk : k < s.size) (h34 : ¬ (s[k].toNat : Int) = 34) (h92 : ¬ (s[k].toNat : Int) = 92) (h1 : ¬ (s[k].toNat : Int) < 32) (h2 : ¬ 126 < (s[k].toNat : Int)) :
    SAt s k0 false (acc ++ [s[k]]) (k + 1) := by
  have e1 : ¬ s[k] = 34 := u8_ne s[k] 34 (by omega) h34
  have e2 : ¬ s[k] = 92 := u8_ne s[k] 92 (by omega) h92
  unfold SAt at h ⊢; rw [bdrop_at s k hk] at h; rw [h]; simp [aS, e1, e2, isP_yes h1 h2]

theorem sat_esc {s : ByteArray} {k0 : Nat} {acc : List UInt8} {k : Nat} (h : SAt s k0 true acc k) (hk : k < s.size) (hc : (s[k].toNat : Int) = 34 ∨ (s[k].toNat : Int) = 92) : SAt s k0 false (acc ++ [s[k]]) (k + 1) := by
  unfold SAt at h ⊢; rw [bdrop_at s k hk] at h; rw [h]; simp [aS, isQ_yes hc]

theorem sat_esc_bad {s : ByteArray} {k0 : Nat} {acc : List UInt8} {k : Nat} (h : SAt s k0 true acc k) (hk : k < s.size) (h34 : ¬ (s[k].toNat : Int) = 34) (h92 : ¬ (s[k].toNat : Int) = 92) : strR s k0 = ⟨[], k, false⟩ := by
  unfold SAt at h; rw [bdrop_at s k hk] at h; rw [h]; simp [aS, isQ_no h34 h92]

/-- From the answer to the four things that Go hands back. -/
theorem str_no {s : ByteArray} {k0 k : Nat} (h : strR s k0 = ⟨[], k, false⟩) : strK s k0 = 0 ∧ strT s k0 = ⟨#[]⟩ ∧ strE s k0 = k ∧ strO s k0 = false := by
  unfold strK strT strE strO; rw [h]; simp
theorem str_yes {s : ByteArray} {k0 k : Nat} {acc : List UInt8} (h : strR s k0 = ⟨acc, k, true⟩) : strK s k0 = 2 ∧ strT s k0 = ⟨acc.toArray⟩ ∧ strE s k0 = k ∧ strO s k0 = true := by
  unfold strK strT strE strO; rw [h]; simp

end Go.Proofs.Qxb6602755a
