/-
  THE PLAIN LAWS of skipQuoted: an automaton with one bit (behind a backslash or not), the run of backslashes, the writer's escape.
-/
import Derived.Lib.Strings
import Derived.Test.Qxb6602736aPlain
namespace Go.Proofs.Qxb6602736a

/-- What follows the closing quote; the Bool says: the byte ahead was a backslash that escapes. -/
def auto : Bool → List UInt8 → Option (List UInt8)
  | _, [] => none
  | true, _ :: r => auto false r
  | false, c :: r => if c = 92 then auto true r else if c = 34 then some r else auto false r

def skR : List UInt8 → Option (List UInt8)
  | [] => none
  | c :: r => if c = 34 then auto false r else none

def skS (s : ByteArray) : ByteArray := ⟨((skR s.data.toList).getD []).toArray⟩
def skB (s : ByteArray) : Bool := (skR s.data.toList).isSome

def skTo (s : ByteArray) (k : Nat) : Prop := skR s.data.toList = auto false (s.data.toList.drop k)

theorem drop_at (s : ByteArray) (k : Nat) (h : k < s.size) : s.data.toList.drop k = s[k] :: s.data.toList.drop (k + 1) := by
  rw [List.drop_eq_getElem_cons (by simpa using h)]; rfl

theorem drop_past (s : ByteArray) (k : Nat) (h : s.size ≤ k) : s.data.toList.drop k = [] := by
  rw [List.drop_eq_nil_iff, size_list]; exact h

theorem u8_eq (c : UInt8) (n : Nat) (hn : n < 256) (h : (c.toNat : Int) = (n : Int)) : c = UInt8.ofNat n := by
  apply UInt8.toNat_inj.1
  rw [UInt8.toNat_ofNat']
  omega

theorem u8_ne (c : UInt8) (n : Nat) (hn : n < 256) (h : ¬ (c.toNat : Int) = (n : Int)) : ¬ c = UInt8.ofNat n := by
  intro e; apply h; rw [e, UInt8.toNat_ofNat']; omega

theorem sk_no0 (s : ByteArray) (h : s.size = 0) : skS s = ⟨#[]⟩ ∧ skB s = false := by
  have e : s.data.toList = [] := by rw [← List.length_eq_zero_iff, size_list]; exact h
  simp [skS, skB, e, skR]

theorem sk_no1 (s : ByteArray) (h : 0 < s.size) (hc : ¬ (s[0].toNat : Int) = 34) : skS s = ⟨#[]⟩ ∧ skB s = false := by
  have e := drop_at s 0 h
  rw [List.drop_zero] at e
  have := u8_ne s[0] 34 (by omega) hc
  have this' : ¬ s[0] = 34 := this
  have hr : skR s.data.toList = none := by rw [e]; simp [skR, this']
  simp [skS, skB, hr]

theorem sk_start (s : ByteArray) (h : 0 < s.size) (hc : (s[0].toNat : Int) = 34) : skTo s 1 := by
  have e := drop_at s 0 h
  rw [List.drop_zero] at e
  have this' : s[0] = 34 := u8_eq s[0] 34 (by omega) hc
  unfold skTo
  rw [e, this', skR]; simp

theorem sk_esc (s : ByteArray) (k : Nat) (hk : k < s.size) (h : skTo s k) (hc : (s[k].toNat : Int) = 92) : skTo s (k + 2) := by
  have this' : s[k] = 92 := u8_eq s[k] 92 (by omega) hc
  unfold skTo at h ⊢
  rw [h, drop_at s k hk, this', auto]
  simp only [if_true]
  by_cases h2 : k + 1 < s.size
  · rw [drop_at s (k + 1) h2, auto]
  · rw [drop_past s (k + 1) (by omega), drop_past s (k + 2) (by omega), auto, auto]

theorem sk_hit (s : ByteArray) (k : Nat) (hk : k < s.size) (h : skTo s k) (hc : (s[k].toNat : Int) = 34) : skS s = s.extract (k + 1) s.size ∧ skB s = true := by
  have this' : s[k] = 34 := u8_eq s[k] 34 (by omega) hc
  unfold skTo at h
  rw [drop_at s k hk, this', auto] at h
  simp at h
  unfold skS skB
  rw [h, Lib.extract_eq]
  refine ⟨?_, rfl⟩
  simp only [Option.getD_some]
  rw [List.take_of_length_le (by rw [List.length_drop, size_list]; omega)]

theorem sk_other (s : ByteArray) (k : Nat) (hk : k < s.size) (h : skTo s k) (h1 : ¬ (s[k].toNat : Int) = 92) (h2 : ¬ (s[k].toNat : Int) = 34) : skTo s (k + 1) := by
  have e1 : ¬ s[k] = 92 := u8_ne s[k] 92 (by omega) h1
  have e2 : ¬ s[k] = 34 := u8_ne s[k] 34 (by omega) h2
  unfold skTo at h ⊢
  rw [h, drop_at s k hk, auto]
  simp [e1, e2]

theorem sk_end (s : ByteArray) (k : Nat) (hk : s.size ≤ k) (h : skTo s k) : skS s = ⟨#[]⟩ ∧ skB s = false := by
  unfold skTo at h
  rw [drop_past s k hk, auto] at h
  simp [skS, skB, h]

theorem first_ext (s : ByteArray) (h : 0 < s.size) : (s.extract 0 1).toList = [s[0]] := by
  have e := drop_at s 0 h
  rw [Lib.extract_toList, e]; rfl

theorem first_yes (s : ByteArray) (h : 0 < s.size) (e : (!(s.extract 0 1).toList == [34]) = false) : (s[0].toNat : Int) = 34 := by
  rw [first_ext s h] at e
  simp at e
  rw [e]; rfl

theorem first_no (s : ByteArray) (h : 0 < s.size) (e : (!(s.extract 0 1).toList == [34]) = true) : ¬ (s[0].toNat : Int) = 34 := by
  rw [first_ext s h] at e
  intro h'
  have this' : s[0] = 34 := u8_eq s[0] 34 (by omega) h'
  rw [this'] at e; simp at e

/-! ### The run of backslashes -/
def bs (c : UInt8) : Bool := c == 92
def back (s : ByteArray) (j : Nat) : List UInt8 := ((s.data.toList.drop 1).take (j - 1)).reverse
def runL (P : List UInt8) : Nat := (P.takeWhile bs).length
def run (s : ByteArray) (j : Nat) : Nat := runL (back s j)

theorem tw_step (P : List UInt8) : ∀ (r : Nat) (h : r < P.length), r ≤ runL P → bs P[r] = true → r + 1 ≤ runL P := by
  induction P with
  | nil => intro r h; simp at h
  | cons a P ih =>
    intro r h hr hb
    unfold runL at hr ⊢
    rw [List.takeWhile_cons] at hr ⊢
    cases r with
    | zero => simp at hb; simp [hb]
    | succ r =>
      by_cases ha : bs a = true
      · simp only [ha, if_true, List.length_cons] at hr ⊢
        have := ih r (by simpa using h) (by unfold runL; omega) (by simpa using hb)
        unfold runL at this; omega
      · simp only [ha] at hr; simp at hr

theorem tw_stop (P : List UInt8) : ∀ (r : Nat) (h : r < P.length), bs P[r] = false → runL P ≤ r := by
  induction P with
  | nil => intro r h; simp at h
  | cons a P ih =>
    intro r h hb
    unfold runL
    rw [List.takeWhile_cons]
    cases r with
    | zero => simp at hb; simp [hb]
    | succ r =>
      by_cases ha : bs a = true
      · simp only [ha, if_true, List.length_cons]
        have := ih r (by simpa using h) (by simpa using hb)
        unfold runL at this; omega
      · simp [ha]

theorem tw_le (P : List UInt8) : runL P ≤ P.length := by
  unfold runL; exact (List.takeWhile_prefix bs).length_le

theorem back_len (s : ByteArray) (j : Nat) (hj : j ≤ s.size) : (back s j).length = j - 1 := by
  unfold back
  rw [List.length_reverse, List.length_take, List.length_drop, size_list]; omega

theorem run_le (s : ByteArray) (j : Nat) (hj : j ≤ s.size) : run s j ≤ j - 1 := by
  unfold run; rw [← back_len s j hj]; exact tw_le _

theorem back_at (s : ByteArray) (j r k : Nat) (hj : j ≤ s.size) (hr : r + 1 < j) (hk : k + r + 1 = j) (hks : k < s.size) (h : r < (back s j).length) : (back s j)[r] = s[k] := by
  have h' : r < (((s.data.toList.drop 1).take (j - 1)).reverse).length := h
  show (((s.data.toList.drop 1).take (j - 1)).reverse)[r]'h' = s.data.toList[k]'(by simpa using hks)
  rw [List.getElem_reverse, List.getElem_take, List.getElem_drop]
  congr 1
  simp only [List.length_take, List.length_drop, size_list]; omega

theorem run_up (s : ByteArray) (j r k : Nat) (hj : j ≤ s.size) (hr : r + 1 < j) (hk : k + r + 1 = j) (hks : k < s.size) (h : r ≤ run s j) (hc : (s[k].toNat : Int) = 92) : r + 1 ≤ run s j := by
  have hl : r < (back s j).length := by rw [back_len s j hj]; omega
  refine tw_step _ r hl h ?_
  rw [back_at s j r k hj hr hk hks hl]
  have this' : s[k] = 92 := u8_eq s[k] 92 (by omega) hc
  rw [this']; rfl

theorem run_stop (s : ByteArray) (j r k : Nat) (hj : j ≤ s.size) (hr : r + 1 < j) (hk : k + r + 1 = j) (hks : k < s.size) (h : r ≤ run s j) (hc : ¬ (s[k].toNat : Int) = 92) : run s j = r := by
  have hl : r < (back s j).length := by rw [back_len s j hj]; omega
  have := tw_stop (back s j) r hl (by
    rw [back_at s j r k hj hr hk hks hl]
    have this' : ¬ s[k] = 92 := u8_ne s[k] 92 (by omega) hc
    unfold bs; simp [this'])
  unfold run at h ⊢; omega

theorem back_succ (s : ByteArray) (j : Nat) (h1 : 1 ≤ j) (hj : j < s.size) : back s (j + 1) = s[j] :: back s j := by
  unfold back
  obtain ⟨i, rfl⟩ : ∃ i, j = i + 1 := ⟨j - 1, by omega⟩
  simp only [Nat.add_sub_cancel]
  rw [List.take_succ_eq_append_getElem (by rw [List.length_drop, size_list]; omega), List.reverse_append]
  simp only [List.reverse_cons, List.reverse_nil, List.nil_append, List.cons_append, List.getElem_drop]
  congr 1
  show _ = s.data.toList[i + 1]'(by simpa using hj)
  congr 1
  omega

theorem run_succ_yes (s : ByteArray) (j : Nat) (h1 : 1 ≤ j) (hj : j < s.size) (hc : s[j] = 92) : run s (j + 1) = run s j + 1 := by
  unfold run; rw [back_succ s j h1 hj, hc]; unfold runL; rw [List.takeWhile_cons]; simp [bs]
theorem run_succ_no (s : ByteArray) (j : Nat) (h1 : 1 ≤ j) (hj : j < s.size) (hc : ¬ s[j] = 92) : run s (j + 1) = 0 := by
  unfold run; rw [back_succ s j h1 hj]; unfold runL; rw [List.takeWhile_cons]; simp [bs, hc]

def mdTo (s : ByteArray) (j : Nat) : Prop := skR s.data.toList = auto (decide (run s j % 2 = 1)) (s.data.toList.drop j)

theorem md_start (s : ByteArray) (h : 0 < s.size) (hc : (s[0].toNat : Int) = 34) : mdTo s 1 := by
  have h := sk_start s h hc
  unfold skTo at h; unfold mdTo
  rw [h]
  have : run s 1 = 0 := by simp [run, back, runL]
  rw [this]; rfl

theorem md_end (s : ByteArray) (k : Nat) (hk : s.size ≤ k) (h : mdTo s k) : skS s = ⟨#[]⟩ ∧ skB s = false := by
  unfold mdTo at h
  rw [drop_past s k hk, auto.eq_def] at h
  simp at h
  simp [skS, skB, h]

theorem md_other (s : ByteArray) (j : Nat) (h1 : 1 ≤ j) (hj : j < s.size) (h : mdTo s j) (hc : ¬ (s[j].toNat : Int) = 34) : mdTo s (j + 1) := by
  have e2 : ¬ s[j] = 34 := u8_ne s[j] 34 (by omega) hc
  unfold mdTo at h ⊢
  rw [h, drop_at s j hj]
  by_cases e1 : s[j] = 92
  · rw [run_succ_yes s j h1 hj e1, e1]
    rcases Nat.mod_two_eq_zero_or_one (run s j) with hm | hm
    · have : (run s j + 1) % 2 = 1 := by omega
      simp [hm, this, auto]
    · have : (run s j + 1) % 2 = 0 := by omega
      simp [hm, this, auto]
  · rw [run_succ_no s j h1 hj e1]
    rcases Nat.mod_two_eq_zero_or_one (run s j) with hm | hm
    · simp [hm, auto, e1, e2]
    · simp [hm, auto]

theorem md_odd (s : ByteArray) (j : Nat) (h1 : 1 ≤ j) (hj : j < s.size) (h : mdTo s j) (hc : (s[j].toNat : Int) = 34) (ho : ¬ ((run s j : Nat) : Int) % 2 = 0) : mdTo s (j + 1) := by
  have e2 : s[j] = 34 := u8_eq s[j] 34 (by omega) hc
  have hm : run s j % 2 = 1 := by omega
  unfold mdTo at h ⊢
  rw [h, drop_at s j hj, run_succ_no s j h1 hj (by rw [e2]; decide)]
  simp [hm, auto]

theorem md_hit (s : ByteArray) (j : Nat) (hj : j < s.size) (h : mdTo s j) (hc : (s[j].toNat : Int) = 34) (ho : ((run s j : Nat) : Int) % 2 = 0) : skS s = s.extract (j + 1) s.size ∧ skB s = true := by
  refine sk_hit s j hj ?_ hc
  unfold mdTo at h
  have hm : ¬ run s j % 2 = 1 := by omega
  rw [decide_eq_false hm] at h
  exact h

end Go.Proofs.Qxb6602736a
