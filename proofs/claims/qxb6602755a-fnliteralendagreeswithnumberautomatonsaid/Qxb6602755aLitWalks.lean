/-
  THE WALKS on the roads of literalEnd: bytes.HasPrefix (with bytes.Equal in place), the closure digitsEnd.
-/
import Derived.Test.Qxb6602755aProg
import Derived.Test.Qxb6602755aPlain
import Derived.WalkKit
import Derived.WalkSpells
import Derived.WalkLawsBesides
import Derived.Laws.BytesArg
import Derived.Lib.ConvBytes
namespace Go.Proofs.Qxb6602755a
open Go.RowKit

theorem ret_bool {a b : Bool} (h : a = b) : Ending.returned (.bool a) = .returned (.bool b) := by rw [h]
theorem ret_int {k : IntKind} {a b : Int} (h : a = b) : Ending.returned (.int k a) = .returned (.int k b) := by rw [h]
theorem ret_two {a b : Int} {x y : Bool} (h : a = b) (h' : x = y) : Ending.returned (.tuple #[.int .i64 a, .bool x]) = .returned (.tuple #[.int .i64 b, .bool y]) := by rw [h, h']

def Bytes (l : List Int) : Prop := ∀ n ∈ l, 0 ≤ n ∧ n ≤ 255

theorem Bytes.drop {l : List Int} (h : Bytes l) (k : Nat) : Bytes (l.drop k) := fun n hn => h n (List.mem_of_mem_drop hn)
theorem Bytes.take {l : List Int} (h : Bytes l) (k : Nat) : Bytes (l.take k) := fun n hn => h n (List.mem_of_mem_take hn)
theorem Bytes.el {l : List Int} (h : Bytes l) (k : Nat) : 0 ≤ el l k ∧ el l k ≤ 255 := by
  unfold Qxb6602755a.el
  rcases Nat.lt_or_ge k l.length with hk | hk
  · have e : l.getD k 0 = l[k] := by simp [List.getD, hk]
    rw [e]; exact h _ (List.getElem_mem hk)
  · have e : l.getD k 0 = 0 := by simp [List.getD, List.getElem?_eq_none hk]
    rw [e]; omega

theorem byte_inj {a b : Int} (ha : 0 ≤ a ∧ a ≤ 255) (hb : 0 ≤ b ∧ b ≤ 255) (h : UInt8.ofNat a.toNat = UInt8.ofNat b.toNat) : a = b := by
  have h := congrArg UInt8.toNat h
  rw [UInt8.toNat_ofNat', UInt8.toNat_ofNat'] at h
  omega

theorem bytes_inj : ∀ (xs ys : List Int), Bytes xs → Bytes ys → xs.map (fun n => UInt8.ofNat n.toNat) = ys.map (fun n => UInt8.ofNat n.toNat) → xs = ys
  | [], [], _, _, _ => rfl
  | [], _ :: _, _, _, h => by simp at h
  | _ :: _, [], _, _, h => by simp at h
  | a :: xs, b :: ys, hx, hy, h => by
    simp only [List.map_cons, List.cons.injEq] at h
    rw [byte_inj (hx a (by simp)) (hy b (by simp)) h.1, bytes_inj xs ys (fun n hn => hx n (by simp [hn])) (fun n hn => hy n (by simp [hn])) h.2]

theorem pre_eq (xs ys : List Int) (hx : Bytes xs) (hy : Bytes ys) (_hl : ys.length ≤ xs.length) : ((strOfNums (xs.take ys.length)).toList == (strOfNums ys).toList) = pre ys xs := by
  rw [Lib.toList_data, Lib.toList_data, strOfNums_data, strOfNums_data]
  unfold pre
  rw [Bool.eq_iff_iff]
  simp only [beq_iff_eq, List.isPrefixOf_iff_prefix]
  constructor
  · intro h
    have := bytes_inj _ _ (hx.take _) hy h
    exact this ▸ List.take_prefix _ _
  · intro h
    rw [← List.prefix_iff_eq_take.1 h]

theorem pre_short (xs ys : List Int) (hl : ¬ ys.length ≤ xs.length) : pre ys xs = false := by
  unfold pre
  rw [Bool.eq_false_iff]
  intro h
  rw [List.isPrefixOf_iff_prefix] at h
  exact hl h.length_le

set_option maxHeartbeats 400000 in
theorem hasPrefix_any (xs ys : List Int) (hx : Bytes xs) (hy : Bytes ys) (b o c g c2 : Nat) (w : World) (hc : xs.length ≤ c) (hy0 : ys.length ≤ 16)
    (cx : ∀ i, i < xs.length → w.cell? ⟨b, o + i, none⟩ = some (.int .u8 (xs.getD i 0))) (cy : ∀ i, i < ys.length → w.cell? ⟨g, 0 + i, none⟩ = some (.int .u8 (ys.getD i 0))) :
    Calls Try.prog 27 #[.slice (some ⟨b, o, none⟩) xs.length c, .slice (some ⟨g, 0, none⟩) ys.length c2] w fun e w' => e = .returned (.bool (pre ys xs)) ∧ w' = w := by
  by_cases hl : ys.length ≤ xs.length
  · have k1 := run_convert_bytes_arg (P := Try.prog) w 22 5 Try.underlying22 Try.underlying5 b o ys.length c (xs.take ys.length) (by simp; omega) (fun i hi => by
      rw [cx i (by omega)]; simp [List.getD, hi])
    have k1' := k1 9 Try.underlying9
    have k2 := run_convert_bytes_arg (P := Try.prog) w 22 5 Try.underlying22 Try.underlying5 g 0 ys.length c2 ys rfl cy 9 Try.underlying9
    have HE : Hid (((strOfNums (xs.take ys.length)).toList == (strOfNums ys).toList) = pre ys xs) := pre_eq xs ys hx hy hl
    clear k1 cx cy
    go_enter Try.func27, Try.ntmps27
    go_wp2
    go_ret
    exact ⟨ret_bool HE.out, rfl⟩
  · have HE := pre_short xs ys hl
    clear cx cy
    go_enter Try.func27, Try.ntmps27
    go_wp2
    go_ret
    exact ⟨ret_bool HE.symm, rfl⟩

/-- The digits from k on, counted to their end. -/
def dEnd (l : List Int) (k : Nat) : Nat := k + digs (l.drop k)
theorem dEnd_yes (l : List Int) (k : Nat) (h : k < l.length) (h1 : 48 ≤ el l k) (h2 : el l k ≤ 57) : dEnd l (k + 1) = dEnd l k := by
  unfold dEnd; rw [digs_yes l k h h1 h2]; omega
theorem dEnd_no (l : List Int) (k : Nat) (h : k < l.length) (hn : ¬ (48 ≤ el l k ∧ el l k ≤ 57)) : dEnd l k = k := by
  unfold dEnd; rw [digs_no l k h hn]; rfl
theorem dEnd_past (l : List Int) (k : Nat) (h : l.length ≤ k) : dEnd l k = k := by
  unfold dEnd; rw [digs_past l k h]; rfl

set_option maxHeartbeats 400000 in
theorem digitsEnd_any (l : List Int) (B b o c p : Nat) (w : World) (hb : l.length ≤ 4194304) (hp : p ≤ l.length)
    (box : w.cell? ⟨B, 0, none⟩ = some (.slice (some ⟨b, o, none⟩) l.length c)) (cl : ∀ i, i < l.length → w.cell? ⟨b, o + i, none⟩ = some (.int .u8 (el l i))) :
    Calls Try.prog 28 #[.int .i64 p, .pointer (some ⟨B, 0, none⟩)] w fun e w' => e = .returned (.int .i64 (dEnd l p)) ∧ w' = w := by
  have CL : Hid (∀ i, i < l.length → w.cell? ⟨b, o + i, none⟩ = some (.int .u8 (el l i))) := cl
  clear cl
  go_enter Try.func28, Try.ntmps28
  go_wp2
  go_loop [0] (fun i => ∃ k : Nat, k ≤ l.length ∧ i = .int .i64 k ∧ Hid (dEnd l k = dEnd l p)) (fun i => l.length - (intOf i).toNat)
  case atStart => exact ⟨p, hp, rfl, rfl⟩
  case round =>
    obtain ⟨k, hk, rfl, HD⟩ := hrel
    by_cases hlt : k < l.length
    · have hck := CL.out k hlt
      obtain ⟨x, hx⟩ : ∃ x, x = el l k := ⟨_, rfl⟩
      rw [← hx] at hck
      have HX : Hid (x = el l k) := hx
      clear hx
      by_cases h1 : 48 ≤ x
      · by_cases h2 : x ≤ 57
        · go_wp2
          go_round
          case rel => exact ⟨k + 1, by omega, by go_num, (dEnd_yes l k hlt (HX.out ▸ h1) (HX.out ▸ h2)).trans HD.out⟩
          case measure => simp [intOf]; omega
        · go_wp2
          go_ret
          exact ⟨ret_int (by rw [← HD.out, dEnd_no l k hlt (by rw [← HX.out]; omega)]), rfl⟩
      · go_wp2
        go_ret
        exact ⟨ret_int (by rw [← HD.out, dEnd_no l k hlt (by rw [← HX.out]; omega)]), rfl⟩
    · go_wp2
      go_ret
      exact ⟨ret_int (by rw [← HD.out, dEnd_past l k (by omega)]), rfl⟩

/-- The same, the argument spelt as the walk has it. -/
theorem digitsEnd_at (l : List Int) (B b o c p : Nat) (x : Int) (hx : x = (p : Int)) (w : World) (hb : l.length ≤ 4194304) (hp : p ≤ l.length)
    (box : w.cell? ⟨B, 0, none⟩ = some (.slice (some ⟨b, o, none⟩) l.length c)) (cl : ∀ i, i < l.length → w.cell? ⟨b, o + i, none⟩ = some (.int .u8 (el l i))) :
    Calls Try.prog 28 #[.int .i64 x, .pointer (some ⟨B, 0, none⟩)] w fun e w' => e = .returned (.int .i64 (dEnd l p)) ∧ w' = w := by
  subst hx
  exact digitsEnd_any l B b o c p w hb hp box cl

theorem dEnd_ge (l : List Int) (k : Nat) : k ≤ dEnd l k := by unfold dEnd; omega
theorem dEnd_le (l : List Int) (k : Nat) (h : k ≤ l.length) : dEnd l k ≤ l.length := digs_bound l k h
theorem dEnd_eq {l : List Int} {k : Nat} (h : dEnd l k = k) : digs (l.drop k) = 0 := by unfold dEnd at h; omega
theorem dEnd_ne {l : List Int} {k : Nat} (h : ¬ dEnd l k = k) : ¬ digs (l.drop k) = 0 := by unfold dEnd at h; omega

end Go.Proofs.Qxb6602755a
