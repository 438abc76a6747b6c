/-
  THE WALKS on the road of FnDigitsMatchesModel: zzBytes, digits, b1IsDecimal, b1AllDecimal.
-/
import Derived.Test.Qxb6602736aProg
import Derived.Test.Qxb6602736aPlain
import Derived.WalkKit
import Derived.WalkSpells
import Derived.WalkLawsBesides
namespace Go.Proofs.Qxb6602736a
open Go.RowKit

theorem ret_bool {a b : Bool} (h : a = b) : Ending.returned (.bool a) = .returned (.bool b) := by rw [h]

theorem ds_at (k : Nat) (h : k < 10) : ((⟨#[48, 49, 50, 51, 52, 53, 54, 55, 56, 57]⟩ : ByteArray)[k]'h).toNat = 48 + k := by
  rcases (by omega : k = 0 ∨ k = 1 ∨ k = 2 ∨ k = 3 ∨ k = 4 ∨ k = 5 ∨ k = 6 ∨ k = 7 ∨ k = 8 ∨ k = 9) with rfl | rfl | rfl | rfl | rfl | rfl | rfl | rfl | rfl | rfl <;> rfl

theorem isdec_yes (c : Int) (k : Nat) (h : k < 10) (e : (((⟨#[48, 49, 50, 51, 52, 53, 54, 55, 56, 57]⟩ : ByteArray)[k]'h).toNat : Int) = c) : true = (decide (48 ≤ c) && decide (c ≤ 57)) := by
  rw [ds_at k h] at e
  symm; simp; omega

theorem isdec_next (c : Int) (k : Nat) (h : k < 10) (e : ((((⟨#[48, 49, 50, 51, 52, 53, 54, 55, 56, 57]⟩ : ByteArray)[k]'h).toNat : Int) == c) = false) (hc : 48 ≤ c → c ≤ 57 → 48 + (k : Int) ≤ c) : 48 ≤ c → c ≤ 57 → 48 + ((k + 1 : Nat) : Int) ≤ c := by
  rw [ds_at k h] at e
  simp at e
  omega

theorem isdec_no (c : Int) (k : Nat) (h : 10 ≤ k) (hc : 48 ≤ c → c ≤ 57 → 48 + (k : Int) ≤ c) : false = (decide (48 ≤ c) && decide (c ≤ 57)) := by
  symm; simp; omega

set_option maxHeartbeats 400000 in
theorem digits_any (s : ByteArray) (w : World) (hs : s.size ≤ 1048576) :
    Calls Try.prog 23 #[.string s] w fun e w' => e = .returned (.bool (dgB s)) ∧ w' = w := by
  go_enter Try.func23, Try.ntmps23
  go_wp2
  · go_ret
    exact ⟨ret_bool (dg_empty s (empty_size s (by assumption))).symm, rfl⟩
  · have h0 := nonempty_size s (by assumption)
    go_loop [3, 8] (fun _ i => ∃ k : Nat, k ≤ s.size ∧ i = .int .i64 k ∧ dgTo s k) (fun _ i => s.size - (intOf i).toNat)
    case atStart => exact ⟨0, by omega, rfl, dgTo_zero s⟩
    case round =>
      obtain ⟨k, hk, rfl, hc⟩ := hrel
      by_cases hlt : k < s.size
      · go_wp2
        · go_ret
          exact ⟨ret_bool (dg_bad s k hlt (by assumption)), rfl⟩
        · go_round
          case rel => exact ⟨_, _, _, ⟨k + 1, by omega, by go_num, all_snoc s k hlt hc (by omega) (by omega)⟩, rfl, rfl, rfl⟩
          case measure => simp [intOf]; omega
        · go_ret
          exact ⟨ret_bool (dg_bad s k hlt (.inl (by assumption))), rfl⟩
      · go_wp2
        go_ret
        exact ⟨ret_bool (dg_yes s k h0 (by omega) hc), rfl⟩

set_option maxHeartbeats 400000 in
theorem isdec_any (c : Int) (w : World) (h0 : 0 ≤ c) (h1 : c ≤ 255) :
    Calls Try.prog 24 #[.int .u8 c] w fun e w' => e = .returned (.bool (decide (48 ≤ c) && decide (c ≤ 57))) ∧ w' = w := by
  go_enter Try.func24, Try.ntmps24
  go_wp2
  go_loop [3] (fun i => ∃ k : Nat, k ≤ 10 ∧ i = .int .i64 k ∧ (48 ≤ c → c ≤ 57 → 48 + (k : Int) ≤ c)) (fun i => 10 - (intOf i).toNat)
  case atStart => exact ⟨0, by omega, rfl, by omega⟩
  case round =>
    obtain ⟨k, hk, rfl, hc⟩ := hrel
    by_cases hlt : k < 10
    · go_wp2
      · go_ret
        rename_i h _
        exact ⟨ret_bool (isdec_yes c k hlt (by simpa using h)), rfl⟩
      · go_round
        case rel => exact ⟨k + 1, by omega, by go_num, isdec_next c k hlt (by assumption) hc⟩
        case measure => simp [intOf]; omega
    · go_wp2
      go_ret
      exact ⟨ret_bool (isdec_no c k (by omega) hc), rfl⟩

set_option maxHeartbeats 400000 in
theorem alldec_any (s : ByteArray) (w : World) (hs : s.size ≤ 1048576) :
    Calls Try.prog 12 #[.string s] w fun e w' => e = .returned (.bool (cntB s)) ∧ w' = w := by
  go_enter Try.func12, Try.ntmps12
  go_wp2
  go_loop [3, 4] (fun n i => ∃ k : Nat, k ≤ s.size ∧ i = .int .i64 k ∧ n = .int .i64 (cntL (s.data.toList.take k))) (fun _ i => s.size - (intOf i).toNat)
  case atStart => exact ⟨0, by omega, rfl, rfl⟩
  case round =>
    obtain ⟨k, hk, rfl, rfl⟩ := hrel
    have hb := cnt_le (s.data.toList.take k)
    have hl : (s.data.toList.take k).length ≤ k := List.length_take_le _ _
    by_cases hlt : k < s.size
    · go_wp2_with (go_at_call 24; refine (isdec_any _ _ (by omega) (by have := s[k].toNat_lt; omega)).mono ?_; rintro e w' ⟨rfl, rfl⟩)
      · go_round
        case rel => exact ⟨k + 1, by omega, by go_num, by rw [cnt_up s k hlt (by assumption)]; go_num⟩
        case measure => simp [intOf]; omega
      · go_round
        case rel => exact ⟨k + 1, by omega, by go_num, by rw [cnt_same s k hlt (by assumption)]⟩
        case measure => simp [intOf]; omega
    · go_wp2
      · go_ret
        exact ⟨ret_bool (cnt_end s k (by omega) (by assumption)), rfl⟩
      · go_ret
        exact ⟨ret_bool (cnt_end0 s (by assumption)), rfl⟩

set_option maxHeartbeats 400000 in
theorem bytes_any (s : ByteArray) (w : World) (hs : s.size ≤ maxLen) :
    Calls Try.prog 10 #[.string s] w fun e w' => e = .returned (.bool (decide (s.size ≤ 1048576))) ∧ w' = w := by
  unfold maxLen at hs
  by_cases h : s.size ≤ 1048576
  · go_enter Try.func10, Try.ntmps10
    go_wp2
    go_ret
    exact ⟨ret_bool (by simp [h]), rfl⟩
  · go_enter Try.func10, Try.ntmps10
    go_wp2
    go_ret
    exact ⟨ret_bool (by simp [h]), rfl⟩

end Go.Proofs.Qxb6602736a
