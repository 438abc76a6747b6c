/-
  THE PLAIN LAWS of this seat, with no Go in sight: decimal digits; the closing quote; the escape.
-/
import Derived.Lib.Strings
namespace Go.Proofs.Qxb6602736a

/-! ### Digits -/
def isDg (c : UInt8) : Bool := decide (48 ≤ c.toNat) && decide (c.toNat ≤ 57)
def dgB (s : ByteArray) : Bool := !s.data.toList.isEmpty && s.data.toList.all isDg
def cntL (l : List UInt8) : Nat := (l.filter isDg).length
def cntB (s : ByteArray) : Bool := decide (0 < s.size) && decide (cntL s.data.toList = s.size)

theorem size_list (s : ByteArray) : s.data.toList.length = s.size := by simp

theorem cnt_le (l : List UInt8) : cntL l ≤ l.length := List.length_filter_le _ _

theorem cnt_all (l : List UInt8) : (cntL l = l.length) = (l.all isDg = true) := by
  unfold cntL
  simp [List.length_filter_eq_length_iff]

theorem dg_cnt (s : ByteArray) : dgB s = cntB s := by
  unfold dgB cntB
  rw [← size_list]
  generalize s.data.toList = l
  rw [Bool.eq_iff_iff]
  simp only [Bool.and_eq_true, decide_eq_true_eq, cnt_all, List.length_pos_iff, Bool.not_eq_true', List.isEmpty_eq_false_iff]

theorem take_snoc (s : ByteArray) (k : Nat) (h : k < s.size) : s.data.toList.take (k + 1) = s.data.toList.take k ++ [s[k]] := by
  rw [List.take_succ_eq_append_getElem (by simpa using h)]; rfl

theorem isDg_iff (c : UInt8) : isDg c = true ↔ (48 : Int) ≤ (c.toNat : Int) ∧ (c.toNat : Int) ≤ 57 := by
  unfold isDg; simp; omega

theorem cnt_snoc_yes (l : List UInt8) (c : UInt8) (h : isDg c = true) : cntL (l ++ [c]) = cntL l + 1 := by
  unfold cntL; simp [List.filter_append, h]
theorem cnt_snoc_no (l : List UInt8) (c : UInt8) (h : isDg c = false) : cntL (l ++ [c]) = cntL l := by
  unfold cntL; simp [List.filter_append, h]

theorem dg_empty (s : ByteArray) (h : s.size = 0) : dgB s = false := by
  have : s.data.toList = [] := by rw [← List.length_eq_zero_iff, size_list]; exact h
  unfold dgB; simp [this]

theorem dg_no (s : ByteArray) (k : Nat) (hk : k < s.size) (h : isDg s[k] = false) : dgB s = false := by
  have hm : s[k] ∈ s.data.toList := by
    show s.data[k] ∈ s.data.toList
    simp
  have : s.data.toList.all isDg = false := by
    rw [List.all_eq_false]; exact ⟨_, hm, by simp [h]⟩
  unfold dgB; rw [this]; simp

def dgTo (s : ByteArray) (k : Nat) : Prop := (s.data.toList.take k).all isDg = true

theorem dgTo_zero (s : ByteArray) : dgTo s 0 := by simp [dgTo]

theorem dg_yes (s : ByteArray) (k : Nat) (hs : 0 < s.size) (hk : s.size ≤ k) (h : dgTo s k) : true = dgB s := by
  unfold dgTo at h
  rw [List.take_of_length_le (by rw [size_list]; exact hk)] at h
  have : s.data.toList.isEmpty = false := by rw [List.isEmpty_eq_false_iff, ← List.length_pos_iff, size_list]; exact hs
  unfold dgB; rw [h, this]; rfl

theorem all_snoc (s : ByteArray) (k : Nat) (hk : k < s.size) (h : dgTo s k) (h1 : (48 : Int) ≤ (s[k].toNat : Int)) (h2 : (s[k].toNat : Int) ≤ 57) : dgTo s (k + 1) := by
  have hd : isDg s[k] = true := (isDg_iff _).2 ⟨h1, h2⟩
  unfold dgTo at h ⊢
  rw [take_snoc s k hk, List.all_append, h]; simp [hd]

theorem dg_bad (s : ByteArray) (k : Nat) (hk : k < s.size) (h : (s[k].toNat : Int) < 48 ∨ 57 < (s[k].toNat : Int)) : false = dgB s := by
  symm
  refine dg_no s k hk ?_
  rw [Bool.eq_false_iff]; intro e
  have := (isDg_iff _).1 e
  omega

theorem cnt_up (s : ByteArray) (k : Nat) (hk : k < s.size) (h : (48 : Int) ≤ (s[k].toNat : Int) ∧ (s[k].toNat : Int) ≤ 57) : cntL (s.data.toList.take (k + 1)) = cntL (s.data.toList.take k) + 1 := by
  rw [take_snoc s k hk]; exact cnt_snoc_yes _ _ ((isDg_iff _).2 h)

theorem cnt_same (s : ByteArray) (k : Nat) (hk : k < s.size) (h : (s[k].toNat : Int) < 48 ∨ 57 < (s[k].toNat : Int)) : cntL (s.data.toList.take (k + 1)) = cntL (s.data.toList.take k) := by
  rw [take_snoc s k hk]
  refine cnt_snoc_no _ _ ?_
  rw [Bool.eq_false_iff]; intro e
  have := (isDg_iff _).1 e
  omega

theorem cnt_end (s : ByteArray) (k : Nat) (hk : s.size ≤ k) (h : 0 < s.size) : ((cntL (s.data.toList.take k) : Int) == (s.size : Int)) = cntB s := by
  rw [List.take_of_length_le (by rw [size_list]; exact hk)]
  unfold cntB
  rw [Bool.eq_iff_iff]; simp [h]; omega

theorem cnt_end0 (s : ByteArray) (h : ¬ 0 < s.size) : false = cntB s := by
  unfold cntB; simp; omega

theorem empty_size (s : ByteArray) (h : s.toList.isEmpty = true) : s.size = 0 := by
  rw [List.isEmpty_iff] at h
  have : s.data.toList = [] := by rw [← h]; exact (ByteArray.toList_eq s).symm
  rw [← size_list, this]; rfl

theorem nonempty_size (s : ByteArray) (h : s.toList.isEmpty = false) : 0 < s.size := by
  rw [List.isEmpty_eq_false_iff] at h
  have : s.data.toList ≠ [] := by intro e; exact h (by rw [← e]; exact ByteArray.toList_eq s)
  rw [← List.length_pos_iff, size_list] at this; exact this

end Go.Proofs.Qxb6602736a
