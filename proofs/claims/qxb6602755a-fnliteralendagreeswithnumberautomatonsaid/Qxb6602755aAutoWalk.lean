/-
  THE WALKS of the number automaton: zzStep, zzAccepting, zzWordAt, zzModelLiteralEnd; and of FnLiteralEndAgreesWithNumberAutomaton.
-/
import Derived.Test.Qxb6602755aCopyParts
import Derived.Test.Qxb6602755aPlainAuto
import Derived.Deep.QuietTactic
import Derived.BigQuiet
import Derived.Deep.Light
namespace Go.Proofs.Qxb6602755a
open Go.RowKit

theorem isD_yes {c : Int} (h1 : 48 ≤ c) (h2 : c ≤ 57) : isD c = true := by unfold isD; simp [h1, h2]
theorem isD_no {c : Int} (h : ¬ (48 ≤ c ∧ c ≤ 57)) : isD c = false := by
  unfold isD; rw [Bool.and_eq_false_iff]; simp only [decide_eq_false_iff_not]; omega

set_option maxHeartbeats 400000 in
theorem isdigit_any (c : Int) (w : World) :
    Calls Try.prog 15 #[.int .u8 c] w fun e w' => e = .returned (.bool (isD c)) ∧ w = w' := by
  by_cases h1 : 48 ≤ c
  · by_cases h2 : c ≤ 57
    · go_enter Try.func15, Try.ntmps15
      go_wp2
      go_ret
      exact ⟨ret_bool (isD_yes h1 h2).symm, rfl⟩
    · go_enter Try.func15, Try.ntmps15
      go_wp2
      go_ret
      exact ⟨ret_bool (isD_no (by omega)).symm, rfl⟩
  · go_enter Try.func15, Try.ntmps15
    go_wp2
    go_ret
    exact ⟨ret_bool (isD_no (by omega)).symm, rfl⟩

set_option maxHeartbeats 1000000 in
theorem step_any (st : Nat) (c : Int) (w : World) (hst : st ≤ 8) :
    Calls Try.prog 24 #[.int .i64 st, .int .u8 c] w fun e w' => e = .returned (.int .i64 (stp st c : Nat)) ∧ w = w' := by
  rcases (by omega : st = 0 ∨ st = 1 ∨ st = 2 ∨ st = 3 ∨ st = 4 ∨ st = 5 ∨ st = 6 ∨ st = 7 ∨ st = 8) with rfl | rfl | rfl | rfl | rfl | rfl | rfl | rfl | rfl
  all_goals
    go_enter Try.func24, Try.ntmps24
    go_wp2_with (go_at_call 15; refine (isdigit_any _ _).mono ?_; rintro e w' ⟨rfl, rfl⟩)
    all_goals go_ret
    all_goals refine ⟨ret_int ?_, rfl⟩
    all_goals go_light
    all_goals simp_all [stp]

set_option maxHeartbeats 400000 in
theorem accept_any (st : Nat) (w : World) (hst : st ≤ 8) :
    Calls Try.prog 25 #[.int .i64 st] w fun e w' => e = .returned (.bool (acc st)) ∧ w = w' := by
  rcases (by omega : st = 0 ∨ st = 1 ∨ st = 2 ∨ st = 3 ∨ st = 4 ∨ st = 5 ∨ st = 6 ∨ st = 7 ∨ st = 8) with rfl | rfl | rfl | rfl | rfl | rfl | rfl | rfl | rfl
  all_goals
    go_enter Try.func25, Try.ntmps25
    go_wp2
    go_ret
    exact ⟨rfl, rfl⟩

theorem drew_drew (w : World) (m n : Nat) : (w.drewN m).drewN n = w.drewN (m + n) := by simp [World.drewN, Nat.add_assoc]

def numB (s : ByteArray) : List Int := s.data.toList.map fun c => (c.toNat : Int)
theorem numB_len (s : ByteArray) : (numB s).length = s.size := by simp [numB]
theorem numB_el (s : ByteArray) (k : Nat) (h : k < s.size) : el (numB s) k = (s[k].toNat : Int) := by
  unfold el numB
  have : k < s.data.toList.length := by simpa using h
  simp [List.getD, h]
  rfl

/-- 'What is left of the word stands at what is left of the text.' -/
def wAt (W l : List Int) (pos k : Nat) : Bool := pre (W.drop k) (l.drop (pos + k))

theorem wAt_zero (W l : List Int) (pos : Nat) : wAt W l pos 0 = pre W (l.drop pos) := by unfold wAt; rw [List.drop_zero]; rfl
theorem wAt_end (W l : List Int) (pos k : Nat) (h : W.length ≤ k) : wAt W l pos k = true := by
  unfold wAt; rw [List.drop_eq_nil_of_le h]; rfl
theorem wAt_step (W l : List Int) (pos k : Nat) (hk : k < W.length) (hp : pos + k < l.length) (h : el l (pos + k) = el W k) : wAt W l pos (k + 1) = wAt W l pos k := by
  unfold wAt pre
  rw [drop_at W k hk, drop_at l (pos + k) hp, List.isPrefixOf, h]
  simp [Nat.add_assoc]
theorem wAt_no (W l : List Int) (pos k : Nat) (hk : k < W.length) (hp : pos + k < l.length) (h : ¬ el l (pos + k) = el W k) : wAt W l pos k = false := by
  unfold wAt pre
  rw [drop_at W k hk, drop_at l (pos + k) hp, List.isPrefixOf]
  have : ¬ el W k = el l (pos + k) := fun e => h e.symm
  simp [this]

set_option maxHeartbeats 1000000 in
theorem wordAt_any (l : List Int) (s : ByteArray) (b o c n pos : Nat) (w : World) (hn : n = l.length) (hnb : n ≤ 4194304) (hpos : pos ≤ n) (hs : s.size ≤ 16)
    (cl : ∀ i, i < n → w.cell? ⟨b, o + i, none⟩ = some (.int .u8 (el l i))) :
    Calls Try.prog 23 #[.slice (some ⟨b, o, none⟩) n c, .int .i64 pos, .string s] w fun e w' => e = .returned (.bool (pre (numB s) (l.drop pos))) ∧ ∃ m, w' = w.drewN m := by
  have CL : Hid (∀ i, i < n → w.cell? ⟨b, o + i, none⟩ = some (.int .u8 (el l i))) := cl
  have LN : Hid (n = l.length) := hn
  clear cl hn
  by_cases hsh : n - pos < s.size
  · have hsh' : (n : Int) - (pos : Int) < (s.size : Int) := by omega
    have HE : Hid (pre (numB s) (l.drop pos) = false) := pre_short _ _ (by rw [numB_len, List.length_drop, ← LN.out]; omega)
    go_enter Try.func23, Try.ntmps23
    go_wp2
    go_ret
    exact ⟨ret_bool HE.out.symm, 0, rfl⟩
  · have hsh' : ¬ (n : Int) - (pos : Int) < (s.size : Int) := by omega
    go_enter Try.func23, Try.ntmps23
    go_wp2
    go_loopw [7] (fun i wr => ∃ k m : Nat, k ≤ s.size ∧ i = .int .i64 k ∧ wr = w.drewN m ∧ Hid (wAt (numB s) l pos k = pre (numB s) (l.drop pos))) (fun i _ => s.size - (intOf i).toNat)
    case atStart => exact ⟨0, 0, by omega, rfl, rfl, wAt_zero _ _ _⟩
    case round =>
      obtain ⟨k, m, hk, rfl, rfl, HW⟩ := hrel
      by_cases hlt : k < s.size
      · have hck := CL.out (pos + k) (by omega)
        obtain ⟨x, hx⟩ : ∃ x, x = el l (pos + k) := ⟨_, rfl⟩
        rw [← hx] at hck
        have HX : Hid (x = el l (pos + k)) := hx
        clear hx
        have hb1 : (pos : Int) + (k : Int) < (n : Int) := by omega
        have hb2 : (k : Int) < (s.size : Int) := by omega
        by_cases he : x = (s[k].toNat : Int)
        · have he' : (x != (s[k].toNat : Int)) = false := by simp [he]
          have HS : Hid (wAt (numB s) l pos (k + 1) = wAt (numB s) l pos k) := wAt_step _ _ _ _ (by rw [numB_len]; exact hlt) (by rw [← LN.out]; omega) (by rw [← HX.out, numB_el s k hlt, he])
          clear he
          go_wp2
          go_quiet (fail)
          go_wp2
          go_roundw
          case rel => exact ⟨k + 1, _, by omega, by go_num, rfl, HS.out.trans HW.out⟩
          case measure => simp [intOf]; omega
        · have he' : (x != (s[k].toNat : Int)) = true := by simp [he]
          have HS : Hid (wAt (numB s) l pos k = false) := wAt_no _ _ _ _ (by rw [numB_len]; exact hlt) (by rw [← LN.out]; omega) (by rw [← HX.out, numB_el s k hlt]; exact he)
          clear he
          go_wp2
          go_quiet (fail)
          go_wp2
          go_ret
          exact ⟨ret_bool (by rw [← HW.out, HS.out]), _, drew_drew _ _ _⟩
      · have hb2 : ¬ (k : Int) < (s.size : Int) := by omega
        go_wp2
        go_ret
        exact ⟨ret_bool (by rw [← HW.out, wAt_end _ _ _ _ (by rw [numB_len]; omega)]), _, rfl⟩

def S0 : ByteArray := ⟨#[116, 114, 117, 101]⟩
def S1 : ByteArray := ⟨#[102, 97, 108, 115, 101]⟩
def S2 : ByteArray := ⟨#[110, 117, 108, 108]⟩

/-- The word test, in the words of literalEnd's law, behind draws. -/
theorem wordAt_d (l : List Int) (s : ByteArray) (W : List Int) (hW : numB s = W) (b o c n pos m : Nat) (w : World) (hn : n = l.length) (hnb : n ≤ 4194304) (hpos : pos ≤ n) (hs : s.size ≤ 16)
    (cl : ∀ i, i < n → w.cell? ⟨b, o + i, none⟩ = some (.int .u8 (el l i))) :
    Calls Try.prog 23 #[.slice (some ⟨b, o, none⟩) n c, .int .i64 pos, .string s] (w.drewN m) fun e w' => e = .returned (.bool (pre W (l.drop pos))) ∧ ∃ m', w' = w.drewN m' := by
  subst hW
  refine (wordAt_any l s b o c n pos (w.drewN m) hn hnb hpos hs cl).mono ?_
  rintro e w' ⟨he, m2, hm⟩
  exact ⟨he, _, hm.trans (drew_drew _ _ _)⟩

/-- The automaton's place: what is still to be read from i on, in state st. -/
def rAt (l : List Int) (pos st i : Nat) : Prop := plus pos (numP (l.drop pos)) = plus i (run st (l.drop i))

theorem rAt_zero (l : List Int) (pos : Nat) : rAt l pos 0 pos := by unfold rAt; rw [run0]
theorem rAt_step {l : List Int} {pos st i : Nat} (h : rAt l pos st i) (hi : i < l.length) (hs : ¬ stp st (el l i) = 9) : rAt l pos (stp st (el l i)) (i + 1) := by
  unfold rAt at h ⊢
  rw [h, drop_at l i hi, run, if_neg hs, plus_plus]
theorem rAt_dead {l : List Int} {pos st i : Nat} (h : rAt l pos st i) (hi : i < l.length) (hs : stp st (el l i) = 9) : plus pos (numP (l.drop pos)) = (i, acc st) := by
  unfold rAt at h
  rw [h, drop_at l i hi, run, if_pos hs]; rfl
theorem rAt_end {l : List Int} {pos st i : Nat} (h : rAt l pos st i) (hi : l.length ≤ i) : plus pos (numP (l.drop pos)) = (i, acc st) := by
  unfold rAt at h
  rw [h, List.drop_eq_nil_of_le hi, run]; rfl

theorem lit_num {l : List Int} {pos : Nat} {r : Nat × Bool} (hn : noW 3 (l.drop pos)) (h : plus pos (numP (l.drop pos)) = r) : litE l pos = r.1 ∧ litO l pos = r.2 := by
  have := at_num l pos hn
  unfold AtP at this
  unfold litE litO
  rw [this, h]; exact ⟨rfl, rfl⟩

theorem stp_le (st : Nat) (c : Int) : stp st c ≤ 9 := by
  unfold stp
  split <;> (repeat (first | omega | split))

set_option maxRecDepth 10000 in
set_option maxHeartbeats 1000000 in
theorem modelLit_any (l : List Int) (b o c n pos : Nat) (w : World) (hn : n = l.length) (hpos : pos < n) (hnb : n ≤ 1048576)
    (cl : ∀ i, i < n → w.cell? ⟨b, o + i, none⟩ = some (.int .u8 (el l i))) :
    Calls Try.prog 11 #[.slice (some ⟨b, o, none⟩) n c, .int .i64 pos] w fun e w' => e = .returned (.tuple #[.int .i64 (litE l pos), .bool (litO l pos)]) ∧ ∃ m, w' = w.drewN m := by
  have CL : Hid (∀ i, i < n → w.cell? ⟨b, o + i, none⟩ = some (.int .u8 (el l i))) := cl
  have LN : Hid (n = l.length) := hn
  clear cl hn
  go_enter Try.func11, Try.ntmps11
  go_wp2
  go_loopw [6, 7] (fun i _ wr => ∃ k m : Nat, k ≤ 3 ∧ i = .int .i64 k ∧ wr = w.drewN m ∧ noW k (l.drop pos)) (fun i _ _ => 3 - (intOf i).toNat)
  case atStart => exact ⟨0, 0, by omega, rfl, rfl, noW_zero _⟩
  case round =>
    obtain ⟨k, m, hk, rfl, rfl, hno⟩ := hrel
    rcases (by omega : k = 0 ∨ k = 1 ∨ k = 2 ∨ k = 3) with rfl | rfl | rfl | rfl
    · by_cases hp : pre W0 (l.drop pos) = true
      · go_wp2_with (first | (go_at_call 14; go_in) | (go_at_call 23; refine (wordAt_d l S0 W0 rfl b o c n pos m w LN.out (by omega) (by omega) (by decide) CL.out).mono ?_; rintro e w' ⟨rfl, m2, rfl⟩; rw [hp]))
        go_ret2
        have R := lit_w0 l pos hp
        exact ⟨ret_two (by rw [R.1]; go_num) R.2.symm, _, rfl⟩
      · have hp' : pre W0 (l.drop pos) = false := by simpa using hp
        go_wp2_with (first | (go_at_call 14; go_in) | (go_at_call 23; refine (wordAt_d l S0 W0 rfl b o c n pos m w LN.out (by omega) (by omega) (by decide) CL.out).mono ?_; rintro e w' ⟨rfl, m2, rfl⟩; rw [hp']))
        go_roundw
        case rel => exact ⟨1, _, by omega, by go_num, rfl, noW_one hp'⟩
        case measure => simp [intOf]
    · by_cases hp : pre W1 (l.drop pos) = true
      · go_wp2_with (first | (go_at_call 14; go_in) | (go_at_call 23; refine (wordAt_d l S1 W1 rfl b o c n pos m w LN.out (by omega) (by omega) (by decide) CL.out).mono ?_; rintro e w' ⟨rfl, m2, rfl⟩; rw [hp]))
        go_ret2
        have R := lit_w1 l pos hno hp
        exact ⟨ret_two (by rw [R.1]; go_num) R.2.symm, _, rfl⟩
      · have hp' : pre W1 (l.drop pos) = false := by simpa using hp
        go_wp2_with (first | (go_at_call 14; go_in) | (go_at_call 23; refine (wordAt_d l S1 W1 rfl b o c n pos m w LN.out (by omega) (by omega) (by decide) CL.out).mono ?_; rintro e w' ⟨rfl, m2, rfl⟩; rw [hp']))
        go_roundw
        case rel => exact ⟨2, _, by omega, by go_num, rfl, noW_two hno hp'⟩
        case measure => simp [intOf]
    · by_cases hp : pre W2 (l.drop pos) = true
      · go_wp2_with (first | (go_at_call 14; go_in) | (go_at_call 23; refine (wordAt_d l S2 W2 rfl b o c n pos m w LN.out (by omega) (by omega) (by decide) CL.out).mono ?_; rintro e w' ⟨rfl, m2, rfl⟩; rw [hp]))
        go_ret2
        have R := lit_w2 l pos hno hp
        exact ⟨ret_two (by rw [R.1]; go_num) R.2.symm, _, rfl⟩
      · have hp' : pre W2 (l.drop pos) = false := by simpa using hp
        go_wp2_with (first | (go_at_call 14; go_in) | (go_at_call 23; refine (wordAt_d l S2 W2 rfl b o c n pos m w LN.out (by omega) (by omega) (by decide) CL.out).mono ?_; rintro e w' ⟨rfl, m2, rfl⟩; rw [hp']))
        go_roundw
        case rel => exact ⟨3, _, by omega, by go_num, rfl, noW_three hno hp'⟩
        case measure => simp [intOf]
    · go_wp2
      go_loop [8, 9, 10] (fun a b _ => ∃ st i : Nat, st ≤ 8 ∧ i ≤ n ∧ a = .int .i64 st ∧ b = .int .i64 i ∧ rAt l pos st i) (fun _ b _ => n - (intOf b).toNat)
      case atStart => exact ⟨0, pos, by omega, by omega, rfl, rfl, rAt_zero l pos⟩
      case round =>
        obtain ⟨st, i, hst, hi, rfl, rfl, hr⟩ := hrel
        have HR : Hid (rAt l pos st i) := hr
        have HN : Hid (noW 3 (l.drop pos)) := hno
        clear hr hno
        by_cases hlt : i < n
        · have hck := CL.out i hlt
          obtain ⟨x, hx⟩ : ∃ x, x = el l i := ⟨_, rfl⟩
          rw [← hx] at hck
          have hle := stp_le st x
          by_cases hs : stp st x = 9
          · have hs' : ((stp st x : Int) == 9) = true := by rw [hs]; rfl
            have HQ : Hid (litE l pos = i ∧ litO l pos = acc st) := lit_num HN.out (rAt_dead HR.out (by rw [← LN.out]; exact hlt) (by rw [← hx]; exact hs))
            clear hs hx hle
            go_wp2_with (first | (go_at_call 24; refine (step_any st x _ hst).mono ?_; rintro e w' ⟨rfl, rfl⟩) | (go_at_call 25; refine (accept_any st _ hst).mono ?_; rintro e w' ⟨rfl, rfl⟩))
            go_ret2
            exact ⟨ret_two (by rw [HQ.out.1]) HQ.out.2.symm, _, rfl⟩
          · have hs' : ((stp st x : Int) == 9) = false := beq_false_of_ne (by omega)
            have hle8 : stp st x ≤ 8 := by omega
            have HQ : Hid (rAt l pos (stp st x) (i + 1)) := by rw [hx]; exact rAt_step HR.out (by rw [← LN.out]; exact hlt) (by rw [← hx]; exact hs)
            clear hs hx hle
            go_wp2_with (first | (go_at_call 24; refine (step_any st x _ hst).mono ?_; rintro e w' ⟨rfl, rfl⟩))
            go_round
            case rel => exact ⟨trivial, _, _, _, _, _, _, _, _, _, _, _, _, _, _, _, _, _, _, ⟨stp st x, i + 1, hle8, by omega, rfl, by go_num, HQ.out⟩, rfl⟩
            case measure => simp [intOf]; omega
        · have HQ : Hid (litE l pos = i ∧ litO l pos = acc st) := lit_num HN.out (rAt_end HR.out (by rw [← LN.out]; omega))
          go_wp2_with (first | (go_at_call 25; refine (accept_any st _ hst).mono ?_; rintro e w' ⟨rfl, rfl⟩))
          go_ret2
          exact ⟨ret_two (by rw [HQ.out.1]) HQ.out.2.symm, _, rfl⟩

set_option maxHeartbeats 400000 in
theorem bytes3_any (a : Option Addr) (n c : Nat) (x : Int) (w : World) (hn : n ≤ maxLen) :
    Calls Try.prog 9 #[.slice a n c, .int .i64 x] w fun e w' => e = .returned (.bool (decide (n ≤ 1048576))) ∧ w = w' := by
  unfold maxLen at hn
  by_cases h : n ≤ 1048576
  · go_enter Try.func9, Try.ntmps9
    go_wp2
    go_ret
    exact ⟨by simp [h], rfl⟩
  · go_enter Try.func9, Try.ntmps9
    go_wp2
    go_ret
    exact ⟨by simp [h], rfl⟩

set_option maxHeartbeats 400000 in
theorem auto_short (a : Option Addr) (n c : Nat) (x : Int) (w : World) (hn : n ≤ maxLen) (hx : n > 1048576 ∨ x < 0 ∨ (n : Int) ≤ x) :
    Calls Try.prog 3 #[.slice a n c, .int .i64 x] w fun e w' => e = .returned (.bool true) ∧ Below w.heap.size w w' := by
  have hm := hn
  unfold maxLen at hn
  by_cases h : n ≤ 1048576
  · have hd : decide (n ≤ 1048576) = true := by simp [h]
    by_cases h0 : x < 0
    · go_enter Try.func3, Try.ntmps3
      go_wp2_with (go_at_call 9; refine (bytes3_any _ _ _ _ _ hm).mono ?_; rintro e w' ⟨rfl, rfl⟩; rw [hd])
      go_ret
      exact ⟨rfl, Below.refl _ _⟩
    · have h1 : (n : Int) ≤ x := by omega
      go_enter Try.func3, Try.ntmps3
      go_wp2_with (go_at_call 9; refine (bytes3_any _ _ _ _ _ hm).mono ?_; rintro e w' ⟨rfl, rfl⟩; rw [hd])
      go_ret
      exact ⟨rfl, Below.refl _ _⟩
  · have hd : decide (n ≤ 1048576) = false := by simp [h]
    go_enter Try.func3, Try.ntmps3
    go_wp2_with (go_at_call 9; refine (bytes3_any _ _ _ _ _ hm).mono ?_; rintro e w' ⟨rfl, rfl⟩; rw [hd])
    go_ret
    exact ⟨rfl, Below.refl _ _⟩

set_option maxRecDepth 10000 in
set_option maxHeartbeats 1000000 in
theorem auto_long (x : Addr) (l : List Int) (hl : Bytes l) (n c pos : Nat) (w : World) (hln : n = l.length) (hn : n ≤ 1048576) (hp : pos < n)
    (cl : ∀ i, i < n → w.cell? (x.add i) = some (.int .u8 (el l i))) :
    Calls Try.prog 3 #[.slice (some x) n c, .int .i64 pos] w fun e w' => e = .returned (.bool true) ∧ Below w.heap.size w w' := by
  have hm : n ≤ maxLen := by unfold maxLen; omega
  have hd : decide (n ≤ 1048576) = true := by simp [hn]
  have LN : Hid (n = l.length) := hln
  have CL : Hid (∀ i, i < n → w.cell? (x.add i) = some (.int .u8 (el l i))) := cl
  clear cl hln
  obtain ⟨i0, hi, hz0, hz1, hz2⟩ := info_parts Try.info5
  have HL : Hid ((l.map (Value.int .u8)).length = Nat.min n n) := by show _ = _; rw [List.length_map, ← LN.out]; exact (Nat.min_self n).symm
  go_enter Try.func3, Try.ntmps3
  go_wp2_with (first | (go_at_call 9; refine (bytes3_any _ _ _ _ _ hm).mono ?_; rintro e w' ⟨rfl, rfl⟩; rw [hd]) | (at_make; refine wpList_make_full _ rfl _ _ 22 rfl w.heap.size 5 i0 (.int .u8 0) 1 Try.underlying22 hi hz0 hz1 _ _ _ _ n rfl rfl rfl rfl (by rw [hz2]; omega) hm (Nat.le_refl _) ?_; intro w1 hown hgrow; obtain ⟨cur, hg, hcl⟩ := own_row hown; have HG : Hid (w1.heap[w.heap.size]? = some (.cells cur.toArray 5 (0, 0))) := hg; have HC : Hid (cur.length = n) := hcl; have hb1 := grown_none hgrow; clear hg hcl hown hgrow) | (have _t := HG; refine wpList_copy_splice rfl (.tmp 28) (.tmp 29) 22 22 rfl 5 Try.underlying22 Try.size5 (some ⟨w.heap.size, 0, none⟩) (some x) n n n c rfl rfl w.heap.size 0 cur 5 HG.out (l.map (Value.int .u8)) HL.out (fun _ => ⟨rfl, x, rfl, src_cells hb1 LN.out CL.out⟩) (by rw [List.length_map, ← LN.out, HC.out]; omega) (nums_one l) w.heap.size w hb1 (Nat.le_refl _) ?_; intro w2 HG2 hb2; clear HG) | (go_at_call 10; go_in))
  have c2 := nums_cells HG2.out (HC.out.trans LN.out)
  rw [← LN.out] at c2
  have s2 := heap_lt HG2.out
  have C2 : Hid (∀ i, i < n → w2.cell? ⟨w.heap.size, 0 + i, none⟩ = some (.int .u8 (el l i))) := c2
  clear c2 HG2 HC hb1 CL
  refine (litEnd_at l hl w.heap.size 0 n n pos _ w2 LN.out rfl (Nat.le_refl _) hp (by omega) s2 C2.out).mono ?_
  rintro e w3 ⟨rfl, hb3⟩
  have C3 : Hid (∀ i, i < n → w3.cell? ⟨w.heap.size, 0 + i, none⟩ = some (.int .u8 (el l i))) := below_cells hb3 s2 C2.out
  have b3 := below_step hb2 (Nat.le_of_lt s2) hb3
  clear C2 hb2 hb3 s2
  go_wp2_with (go_at_call 11; refine (modelLit_any l w.heap.size 0 n n pos _ LN.out hp hn C3.out).mono ?_; rintro e w4 ⟨rfl, m4, rfl⟩)
  go_ret
  exact ⟨rfl, below_drewN b3 _⟩

end Go.Proofs.Qxb6602755a
