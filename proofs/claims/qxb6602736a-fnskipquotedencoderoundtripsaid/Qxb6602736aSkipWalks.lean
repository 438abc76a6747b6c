/-
  THE WALKS on the road of FnSkipQuotedMatchesModel: skipQuoted and b1ClosingQuoteModel.
-/
import Derived.Test.Qxb6602736aProg
import Derived.Test.Qxb6602736aPlain
import Derived.Test.Qxb6602736aPlainSkip
import Derived.WalkKit
import Derived.WalkSpells
import Derived.WalkLawsBesides
namespace Go.Proofs.Qxb6602736a
open Go.RowKit

theorem ret_pair {a b : ByteArray} {x y : Bool} (h : a = b) (h' : x = y) : Ending.returned (.tuple #[.string a, .bool x]) = .returned (.tuple #[.string b, .bool y]) := by rw [h, h']

theorem even_of {a r : Nat} (h : a = r) (e : ((r : Int) % 2 == 0) = true) : ((a : Nat) : Int) % 2 = 0 := by
  subst h; simpa using e
theorem odd_of {a r : Nat} (h : a = r) (e : ((r : Int) % 2 == 0) = false) : ¬ ((a : Nat) : Int) % 2 = 0 := by
  subst h; exact ne_of_beq_false e

set_option maxHeartbeats 400000 in
theorem bytes7_any (s : ByteArray) (w : World) (hs : s.size ≤ maxLen) :
    Calls Try.prog 17 #[.string s] w fun e w' => e = .returned (.bool (decide (s.size ≤ 1048576))) ∧ w' = w := by
  unfold maxLen at hs
  by_cases h : s.size ≤ 1048576
  · go_enter Try.func17, Try.ntmps17
    go_wp2
    go_ret
    exact ⟨by simp [h], rfl⟩
  · go_enter Try.func17, Try.ntmps17
    go_wp2
    go_ret
    exact ⟨by simp [h], rfl⟩

set_option maxHeartbeats 400000 in
theorem skip_any (s : ByteArray) (w : World) (hs : s.size ≤ 4194304) :
    Calls Try.prog 26 #[.string s] w fun e w' => e = .returned (.tuple #[.string (skS s), .bool (skB s)]) ∧ w' = w := by
  by_cases h0 : 0 < s.size
  · go_enter Try.func26, Try.ntmps26
    go_wp2
    · go_ret2
      have hn := sk_no1 s h0 (first_no s h0 (by assumption))
      exact ⟨ret_pair hn.1.symm hn.2.symm, rfl⟩
    · have hst := sk_start s h0 (first_yes s h0 (by assumption))
      go_loop [4] (fun i => ∃ k : Nat, k ≤ s.size + 1 ∧ i = .int .i64 k ∧ skTo s k) (fun i => s.size + 1 - (intOf i).toNat)
      case atStart => exact ⟨1, by omega, rfl, hst⟩
      case round =>
        obtain ⟨k, hk, rfl, hc⟩ := hrel
        clear hst
        by_cases hlt : k < s.size
        · go_wp2
          · have hz : ((s[k].toNat : Int) == 92) = true := by assumption
            go_round
            case rel => exact ⟨k + 2, by omega, by go_num, sk_esc s k hlt hc (by simpa using hz)⟩
            case measure => simp [intOf]; omega
          · have hz : ((s[k].toNat : Int) == 34) = true := by assumption
            go_ret2
            have hn := sk_hit s k hlt hc (by simpa using hz)
            exact ⟨ret_pair hn.1.symm hn.2.symm, rfl⟩
          · have hz1 : ((s[k].toNat : Int) == 92) = false := by assumption
            have hz2 : ((s[k].toNat : Int) == 34) = false := by assumption
            go_round
            case rel => exact ⟨k + 1, by omega, by go_num, sk_other s k hlt hc (by simpa using hz1) (by simpa using hz2)⟩
            case measure => simp [intOf]; omega
        · go_wp2
          go_ret2
          have hn := sk_end s k (by omega) hc
          exact ⟨ret_pair hn.1.symm hn.2.symm, rfl⟩
  · go_enter Try.func26, Try.ntmps26
    go_wp2
    go_ret2
    have hn := sk_no0 s (by omega)
    exact ⟨ret_pair hn.1.symm hn.2.symm, rfl⟩

set_option maxHeartbeats 400000 in
theorem model_any (s : ByteArray) (w : World) (hs : s.size ≤ 1048576) :
    Calls Try.prog 19 #[.string s] w fun e w' => e = .returned (.tuple #[.string (skS s), .bool (skB s)]) ∧ w' = w := by
  by_cases h0 : 0 < s.size
  · have hz : ((s.size : Int) == 0) = false := beq_false_of_ne (by omega)
    by_cases hq : (s[0].toNat : Int) = 34
    · have hst := md_start s h0 hq
      have hq' : ((s[0].toNat : Int) != 34) = false := by simp [hq]
      clear hq
      go_enter Try.func19, Try.ntmps19
      go_wp2
      go_loop [4, 5, 6] (fun i _ _ => ∃ j : Nat, 1 ≤ j ∧ j ≤ s.size ∧ i = .int .i64 j ∧ mdTo s j) (fun i _ _ => s.size - (intOf i).toNat)
      case atStart => exact ⟨1, by omega, by omega, rfl, hst⟩
      case round =>
        obtain ⟨j, h1, hj, rfl, hm⟩ := hrel
        clear hst
        by_cases hlt : j < s.size
        · by_cases hqj : (s[j].toNat : Int) = 34
          · have hqj' : ((s[j].toNat : Int) != 34) = false := by simp [hqj]
            have HQ : Hid ((s[j].toNat : Int) = 34) := hqj
            clear hqj
            go_wp2
            go_loop [5, 6] (fun a b => ∃ r k : Nat, r ≤ run s j ∧ k + r + 1 = j ∧ a = .int .i64 r ∧ b = .int .i64 k) (fun _ b => (intOf b).toNat)
            case atStart => exact ⟨0, j - 1, by omega, by omega, rfl, by go_num⟩
            case round =>
              obtain ⟨r, k, hr, hkr, rfl, rfl⟩ := hrel
              have HK : Hid (k + r + 1 = j) := hkr
              have hrj : r < j := by omega
              have hks : k < s.size := by omega
              have HR : Hid (r ≤ run s j) := hr
              clear hkr hr
              by_cases hk1 : 1 ≤ k
              · by_cases h92 : (s[k].toNat : Int) = 92
                · have h92' : ((s[k].toNat : Int) == 92) = true := by simp [h92]
                  have HU : Hid (r + 1 ≤ run s j) := run_up s j r k (by omega) (by have := HK.out; omega) HK.out hks HR.out h92
                  clear h92
                  go_wp2
                  go_round
                  case rel => exact ⟨r + 1, k - 1, HU.out, by have := HK.out; omega, by go_num, by go_num⟩
                  case measure => simp [intOf]; omega
                · have h92' : ((s[k].toNat : Int) == 92) = false := by simp [h92]
                  have HU : Hid (run s j = r) := run_stop s j r k (by omega) (by have := HK.out; omega) HK.out hks HR.out h92
                  clear h92
                  go_wp2
                  · have he : ((r : Int) % 2 == 0) = true := by assumption
                    go_ret2
                    have hn := md_hit s j hlt hm HQ.out (even_of HU.out he)
                    exact ⟨ret_pair hn.1.symm hn.2.symm, rfl⟩
                  · have he : ((r : Int) % 2 == 0) = false := by assumption
                    go_round
                    case rel => exact ⟨j + 1, by omega, by omega, by go_num, md_odd s j h1 hlt hm HQ.out (odd_of HU.out he)⟩
                    case measure => simp [intOf]; omega
              · have HU : Hid (run s j = r) := by have := run_le s j (by omega); have := HK.out; have := HR.out; show run s j = r; omega
                go_wp2
                · have he : ((r : Int) % 2 == 0) = true := by assumption
                  go_ret2
                  have hn := md_hit s j hlt hm HQ.out (even_of HU.out he)
                  exact ⟨ret_pair hn.1.symm hn.2.symm, rfl⟩
                · have he : ((r : Int) % 2 == 0) = false := by assumption
                  go_round
                  case rel => exact ⟨j + 1, by omega, by omega, by go_num, md_odd s j h1 hlt hm HQ.out (odd_of HU.out he)⟩
                  case measure => simp [intOf]; omega
          · have hqj' : ((s[j].toNat : Int) != 34) = true := by simp [hqj]
            go_wp2
            go_round
            case rel => exact ⟨j + 1, by omega, by omega, by go_num, md_other s j h1 hlt hm hqj⟩
            case measure => simp [intOf]; omega
        · go_wp2
          go_ret2
          have hn := md_end s j (by omega) hm
          exact ⟨ret_pair hn.1.symm hn.2.symm, rfl⟩
    · have hq' : ((s[0].toNat : Int) != 34) = true := by simp [hq]
      have hn := sk_no1 s h0 hq
      have HN : Hid (skS s = ⟨#[]⟩ ∧ skB s = false) := hn
      clear hn hq
      go_enter Try.func19, Try.ntmps19
      go_wp2
      go_ret2
      exact ⟨ret_pair HN.out.1.symm HN.out.2.symm, rfl⟩
  · have hn := sk_no0 s (by omega)
    obtain rfl : s = ByteArray.empty := ByteArray.size_eq_zero_iff.1 (by omega)
    have HN : Hid (skS ByteArray.empty = ⟨#[]⟩ ∧ skB ByteArray.empty = false) := hn
    clear hn h0
    go_enter Try.func19, Try.ntmps19
    go_wp2
    go_ret2
    exact ⟨ret_pair HN.out.1.symm HN.out.2.symm, rfl⟩

end Go.Proofs.Qxb6602736a
