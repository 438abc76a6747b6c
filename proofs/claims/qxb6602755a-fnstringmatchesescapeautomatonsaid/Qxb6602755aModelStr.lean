/-
  THE WALK of zzModelString and of FnStringMatchesEscapeAutomaton.
-/
import Derived.Test.Qxb6602755aZZStr
import Derived.Laws.IdiomStrings
import Derived.Lib.SliceRun
namespace Go.Proofs.Qxb6602755a
open Go.RowKit

theorem Try.byteRow : (Try.prog.info? 5).map (fun i => (i.zero, i.size, i.bytes)) = some (some (.int .u8 0), 1, 1) := by kernel_rfl

theorem one_u8 (n : Int) : ∀ u ∈ [Value.int .u8 n], u.oneCell' = true := by
  intro u hu; simp at hu; subst hu; rfl

/-- The text gathered so far: a slice of the call's own, nil where it is empty at first. -/
structure Acc (w : World) (B : Nat) (v : Value) (l : List UInt8) : Prop where
  own : w.ownsRow B 5 1 v l.length (Lib.byteCells l)
  shape : ∃ ao cp, v = .slice ao l.length cp

theorem Acc.nil (w : World) (B : Nat) : Acc w B (.slice none 0 0) [] := ⟨World.ownsRow_nil _ _ _ _, none, 0, rfl⟩

theorem own_shape {w : World} {B n : Nat} {v : Value} {xs : List Value} (h : w.ownsRow B 5 1 v n xs) : ∃ ao cp, v = .slice ao n cp := by
  rcases h.2 with ⟨hv, h0⟩ | ⟨g, cap, cur, hv, _⟩
  · exact ⟨none, 0, by rw [hv, h0]⟩
  · exact ⟨_, _, hv⟩

theorem Acc.push {w : World} {B : Nat} {v : Value} {l : List UInt8} {c : UInt8} (h : w.ownsRow B 5 1 v (l.length + 1) (Lib.byteCells l ++ [.int .u8 (c.toNat : Int)])) : Acc w B v (l ++ [c]) := by
  have e : Lib.byteCells (l ++ [c]) = Lib.byteCells l ++ [.int .u8 (c.toNat : Int)] := by simp [Lib.byteCells]
  have h' : w.ownsRow B 5 1 v (l ++ [c]).length (Lib.byteCells (l ++ [c])) := by rw [e, List.length_append]; exact h
  exact ⟨h', own_shape h'⟩

/-- string(out) -/
theorem Acc.conv {w : World} {B : Nat} {ao : Option Addr} {n cp : Nat} {l : List UInt8} (h : w.ownsRow B 5 1 (.slice ao n cp) n (Lib.byteCells l)) :
    (convert 22 9 (.slice ao n cp)).run Try.prog w = .ok (.string ⟨l.toArray⟩) w := by
  have hn : n = l.length := by have := h.1; rw [Lib.byteCells_length] at this; omega
  subst hn
  rcases h.2 with ⟨hv, h0⟩ | ⟨g, cap, cur, hv, _⟩
  · have hl : l = [] := List.eq_nil_of_length_eq_zero h0
    subst hl
    simp only [Value.slice.injEq] at hv
    obtain ⟨rfl, _, rfl⟩ := hv
    exact run_convert_bytes_nil (P := Try.prog) w 22 5 Try.underlying22 Try.underlying5 _ _ 9 Try.underlying9
  · simp only [Value.slice.injEq] at hv
    obtain ⟨rfl, _, rfl⟩ := hv
    refine run_convert_bytes_back (P := Try.prog) w 22 9 5 ⟨g, 0, none⟩ cp l Try.underlying22 Try.underlying5 Try.underlying9 ?_
    intro j hj
    rw [Addr.add_lit, Nat.zero_add, h.cellAt j (by omega)]
    simp [Lib.byteCells, hj]

theorem acc_below {w wr w2 : World} {v : Value} {n : Nat} {xs : List Value} (hb : Below w.heap.size w wr) (hown : wr.ownsRow w.heap.size 5 1 v n xs) (o : Obj) (hg : (wr.alloc o).grownBy w2 v.ownBlock) : Below w.heap.size w w2 :=
  (hb.alloc hb.size o).grown hg (by have := hb.size; simp; omega) (fun k hk => (hown.lt k hk).1)

theorem ret3 {a b : ByteArray} {i j : Int} {x y : Bool} (h1 : a = b) (h2 : i = j) (h3 : x = y) : Ending.returned (.tuple #[.string a, .int .i64 i, .bool x]) = .returned (.tuple #[.string b, .int .i64 j, .bool y]) := by rw [h1, h2, h3]

set_option maxHeartbeats 1000000 in
theorem model_any (s : ByteArray) (k0 : Nat) (x : Int) (w : World) (hs : s.size ≤ 1048576) (hk0 : (k0 : Int) ≤ 9223372036854775807) (hx : x = (k0 : Int) - 1) :
    Calls Try.prog 19 #[.string s, .int .i64 x] w fun e w' => e = .returned (.tuple #[.string (strT s k0), .int .i64 (strE s k0), .bool (strO s k0)]) ∧ Below w.heap.size w w' := by
  subst hx
  obtain ⟨i0, hi, hz0, hz1, hz2⟩ := info_parts Try.byteRow
  go_enter Try.func19, Try.ntmps19
  go_wp2
  go_loopw [7, 8, 9, 10] (fun i v e _ wr => ∃ (k : Nat) (acc : List UInt8) (esc : Bool), acc.length ≤ k ∧ (k : Int) ≤ 9223372036854775807 ∧ i = .int .i64 k ∧ e = .bool esc ∧ Acc wr w.heap.size v acc ∧ Below w.heap.size w wr ∧ SAt s k0 esc acc k) (fun i _ _ _ _ => s.size - (intOf i).toNat)
  case atStart => exact ⟨k0, [], false, by simp, hk0, by go_num, rfl, Acc.nil _ _, Below.refl _ _, sat_start s k0⟩
  case round =>
    obtain ⟨k, acc, esc, hacc, hk, rfl, rfl, hA, hb, hsa⟩ := hrel
    obtain ⟨hown, ao, cp, rfl⟩ := hA
    have HS : Hid (SAt s k0 esc acc k) := hsa
    clear hsa
    by_cases hlt : k < s.size
    · cases esc with
      | true =>
        by_cases h34 : (s[k].toNat : Int) = 34
        · have b34 : ((s[k].toNat : Int) != 34) = false := by simp [h34]
          have HS2 : Hid (SAt s k0 false (acc ++ [s[k]]) (k + 1)) := sat_esc HS.out hlt (.inl h34)
          clear h34
          go_wp2_with (at_builtin; refine wpList_append_own _ rfl (.tmp 28) (.tmp 30) 22 rfl w.heap.size 5 i0 (.int .u8 0) 1 1 Try.underlying22 hi hz0 hz1 hz2 rfl (by decide) _ _ _ rfl (hown.alloc _) ⟨wr.heap.size, 0, none⟩ 1 1 [.int .u8 (s[k].toNat : Int)] rfl rfl (cell_one_new _ _ _) (one_u8 _) (by unfold maxLen; omega) (by omega) (by have := hb.size; simp; omega) ?_; intro v2 w2 hown2 hgrow2 hx2; clear hx2)
          have hb2 := acc_below hb hown _ hgrow2
          go_roundw
          case rel => exact ⟨k + 1, acc ++ [s[k]], false, by simp; omega, by omega, by go_num, rfl, Acc.push hown2, hb2, HS2.out⟩
          case measure => simp [intOf]; omega
        · have b34 : ((s[k].toNat : Int) != 34) = true := by simp [h34]
          by_cases h92 : (s[k].toNat : Int) = 92
          · have b92 : ((s[k].toNat : Int) != 92) = false := by simp [h92]
            have HS2 : Hid (SAt s k0 false (acc ++ [s[k]]) (k + 1)) := sat_esc HS.out hlt (.inr h92)
            clear h34 h92
            go_wp2_with (at_builtin; refine wpList_append_own _ rfl (.tmp 28) (.tmp 30) 22 rfl w.heap.size 5 i0 (.int .u8 0) 1 1 Try.underlying22 hi hz0 hz1 hz2 rfl (by decide) _ _ _ rfl (hown.alloc _) ⟨wr.heap.size, 0, none⟩ 1 1 [.int .u8 (s[k].toNat : Int)] rfl rfl (cell_one_new _ _ _) (one_u8 _) (by unfold maxLen; omega) (by omega) (by have := hb.size; simp; omega) ?_; intro v2 w2 hown2 hgrow2 hx2; clear hx2)
            have hb2 := acc_below hb hown _ hgrow2
            go_roundw
            case rel => exact ⟨k + 1, acc ++ [s[k]], false, by simp; omega, by omega, by go_num, rfl, Acc.push hown2, hb2, HS2.out⟩
            case measure => simp [intOf]; omega
          · have b92 : ((s[k].toNat : Int) != 92) = true := by simp [h92]
            have HR : Hid (strK s k0 = 0 ∧ strT s k0 = ⟨#[]⟩ ∧ strE s k0 = k ∧ strO s k0 = false) := str_no (sat_esc_bad HS.out hlt h34 h92)
            clear hown HS h34 h92
            go_wp2
            go_ret3
            exact ⟨ret3 HR.out.2.1.symm (by rw [HR.out.2.2.1]) HR.out.2.2.2.symm, hb⟩
      | false =>
        by_cases h92 : (s[k].toNat : Int) = 92
        · have b92 : ((s[k].toNat : Int) == 92) = true := by simp [h92]
          have HS2 : Hid (SAt s k0 true acc (k + 1)) := sat_back HS.out hlt h92
          have HA : Hid (Acc wr w.heap.size (.slice ao acc.length cp) acc) := ⟨hown, ao, cp, rfl⟩
          clear h92 hown
          go_wp2
          go_roundw
          case rel => exact ⟨k + 1, acc, true, by omega, by omega, by go_num, rfl, HA.out, hb, HS2.out⟩
          case measure => simp [intOf]; omega
        · have b92 : ((s[k].toNat : Int) == 92) = false := by simp [h92]
          by_cases h34 : (s[k].toNat : Int) = 34
          · have b34 : ((s[k].toNat : Int) == 34) = true := by simp [h34]
            have HR : Hid (strK s k0 = 2 ∧ strT s k0 = ⟨acc.toArray⟩ ∧ strE s k0 = k + 1 ∧ strO s k0 = true) := str_yes (sat_quote HS.out hlt h34)
            have hcv := Acc.conv hown
            clear h34 h92 hown HS
            go_wp2
            go_ret3
            exact ⟨ret3 HR.out.2.1.symm (by rw [HR.out.2.2.1]; omega) HR.out.2.2.2.symm, hb⟩
          · have b34 : ((s[k].toNat : Int) == 34) = false := by simp [h34]
            by_cases h32 : (s[k].toNat : Int) < 32
            · have HR : Hid (strK s k0 = 0 ∧ strT s k0 = ⟨#[]⟩ ∧ strE s k0 = k ∧ strO s k0 = false) := str_no (sat_bad HS.out hlt (.inl h32))
              clear hown HS h34 h92
              go_wp2
              go_ret3
              exact ⟨ret3 HR.out.2.1.symm (by rw [HR.out.2.2.1]) HR.out.2.2.2.symm, hb⟩
            · by_cases h126 : 126 < (s[k].toNat : Int)
              · have HR : Hid (strK s k0 = 0 ∧ strT s k0 = ⟨#[]⟩ ∧ strE s k0 = k ∧ strO s k0 = false) := str_no (sat_bad HS.out hlt (.inr h126))
                clear hown HS h34 h92
                go_wp2
                go_ret3
                exact ⟨ret3 HR.out.2.1.symm (by rw [HR.out.2.2.1]) HR.out.2.2.2.symm, hb⟩
              · have HS2 : Hid (SAt s k0 false (acc ++ [s[k]]) (k + 1)) := sat_plain HS.out hlt h34 h92 h32 h126
                clear h34 h92
                go_wp2_with (at_builtin; refine wpList_append_own _ rfl (.tmp 47) (.tmp 49) 22 rfl w.heap.size 5 i0 (.int .u8 0) 1 1 Try.underlying22 hi hz0 hz1 hz2 rfl (by decide) _ _ _ rfl (hown.alloc _) ⟨wr.heap.size, 0, none⟩ 1 1 [.int .u8 (s[k].toNat : Int)] rfl rfl (cell_one_new _ _ _) (one_u8 _) (by unfold maxLen; omega) (by omega) (by have := hb.size; simp; omega) ?_; intro v2 w2 hown2 hgrow2 hx2; clear hx2)
                have hb2 := acc_below hb hown _ hgrow2
                go_roundw
                case rel => exact ⟨k + 1, acc ++ [s[k]], false, by simp; omega, by omega, by go_num, rfl, Acc.push hown2, hb2, HS2.out⟩
                case measure => simp [intOf]; omega
    · have R := str_no (sat_end HS.out (by omega))
      have HR : Hid (strK s k0 = 0 ∧ strT s k0 = ⟨#[]⟩ ∧ strE s k0 = k ∧ strO s k0 = false) := R
      clear R hown
      go_wp2
      go_ret3
      exact ⟨ret3 HR.out.2.1.symm (by rw [HR.out.2.2.1]) HR.out.2.2.2.symm, hb⟩

theorem zz_at (s : ByteArray) (k0 : Nat) (x : Int) (w : World) (hs : s.size ≤ 4194304) (hk0 : k0 ≤ 9223372036854775807) (hx : x = (k0 : Int) - 1) (K : Int) (O : Bool) (h : strK s k0 = K ∧ strO s k0 = O) :
    Calls Try.prog 18 #[.string s, .int .i64 x] w fun e w' => e = .returned (.tuple #[.int .u8 K, .string (strT s k0), .int .i64 0, .slice none 0 0, .bool false, .int .i64 (strE s k0), .bool O]) ∧ Below w.heap.size w w' := by
  obtain ⟨rfl, rfl⟩ := h
  exact zzstring_any s k0 x w hs hk0 hx

theorem model_at (s : ByteArray) (k0 : Nat) (x : Int) (w : World) (hs : s.size ≤ 1048576) (hk0 : (k0 : Int) ≤ 9223372036854775807) (hx : x = (k0 : Int) - 1) (O : Bool) (h : strO s k0 = O) :
    Calls Try.prog 19 #[.string s, .int .i64 x] w fun e w' => e = .returned (.tuple #[.string (strT s k0), .int .i64 (strE s k0), .bool O]) ∧ Below w.heap.size w w' := by
  subst h
  exact model_any s k0 x w hs hk0 hx

theorem nil_nil (W : World) : (binOp .eql 22 (.slice none 0 0) (.slice none 0 0)).run Try.prog W = .ok (.bool true) W := by
  rw [Lib.run_eql_slice_nil W 22 5 none 0 0 0 0 Try.underlying22]; rfl

theorem below_two {w0 w w' : World} (h : Below w0.heap.size w0 w) (hb : Below w.heap.size w w') : Below w0.heap.size w0 w' := h.trans (hb.mono h.size)

set_option maxHeartbeats 400000 in
theorem bytes6_any (s : ByteArray) (x : Int) (w : World) (hs : s.size ≤ maxLen) :
    Calls Try.prog 17 #[.string s, .int .i64 x] w fun e w' => e = .returned (.bool (decide (s.size ≤ 1048576))) ∧ w = w' := by
  unfold maxLen at hs
  by_cases h : s.size ≤ 1048576
  · go_enter Try.func17, Try.ntmps17
    go_wp2
    go_ret
    exact ⟨by simp [h], rfl⟩
  · go_enter Try.func17, Try.ntmps17
    go_wp2
    go_ret
    exact ⟨by simp [h], rfl⟩

set_option maxHeartbeats 400000 in
theorem match_short (s : ByteArray) (x : Int) (w : World) (hm : s.size ≤ maxLen) (h : 1048576 < s.size ∨ x < -1 ∨ x = 9223372036854775807) :
    Calls Try.prog 6 #[.string s, .int .i64 x] w fun e w' => e = .returned (.bool true) ∧ Below w.heap.size w w' := by
  by_cases h0 : s.size ≤ 1048576
  · have hd : decide (s.size ≤ 1048576) = true := by simp [h0]
    by_cases h1 : x < -1
    · go_enter Try.func6, Try.ntmps6
      go_wp2_with (go_at_call 17; refine (bytes6_any _ _ _ hm).mono ?_; rintro e w' ⟨rfl, rfl⟩; rw [hd])
      go_ret
      exact ⟨rfl, Below.refl _ _⟩
    · obtain rfl : x = 9223372036854775807 := by omega
      go_enter Try.func6, Try.ntmps6
      go_wp2_with (go_at_call 17; refine (bytes6_any _ _ _ hm).mono ?_; rintro e w' ⟨rfl, rfl⟩; rw [hd])
      go_ret
      exact ⟨rfl, Below.refl _ _⟩
  · have hd : decide (s.size ≤ 1048576) = false := by simp [h0]
    go_enter Try.func6, Try.ntmps6
    go_wp2_with (go_at_call 17; refine (bytes6_any _ _ _ hm).mono ?_; rintro e w' ⟨rfl, rfl⟩; rw [hd])
    go_ret
    exact ⟨rfl, Below.refl _ _⟩

set_option maxRecDepth 10000 in
set_option maxHeartbeats 1000000 in
theorem match_long (s : ByteArray) (x : Int) (w : World) (hs : s.size ≤ 1048576) (h1 : -1 ≤ x) (h2 : x < 9223372036854775807) :
    Calls Try.prog 6 #[.string s, .int .i64 x] w fun e w' => e = .returned (.bool true) ∧ Below w.heap.size w w' := by
  have hm : s.size ≤ maxLen := by unfold maxLen; omega
  have hd : decide (s.size ≤ 1048576) = true := by simp [hs]
  obtain ⟨k0, hk⟩ : ∃ k0 : Nat, x = (k0 : Int) - 1 := ⟨(x + 1).toNat, by omega⟩
  have HK : Hid (x = (k0 : Int) - 1) := hk
  have hk1 : (k0 : Int) ≤ 9223372036854775807 := by omega
  have hxm : (x == 9223372036854775807) = false := beq_false_of_ne (by omega)
  have hnil := nil_nil
  clear hk
  by_cases hO : strO s k0 = true
  · have HV : Hid (strK s k0 = 2 ∧ strO s k0 = true) := ⟨by unfold strK; rw [hO]; rfl, hO⟩
    clear hO
    go_enter Try.func6, Try.ntmps6
    go_wp2_with (first | (go_at_call 17; refine (bytes6_any _ _ _ hm).mono ?_; rintro e w' ⟨rfl, rfl⟩; rw [hd]) | (go_at_call 18; refine (zz_at s k0 x _ (by omega) (by omega) HK.out _ _ HV.out).mono ?_; rintro e w1 ⟨rfl, hb1⟩) | (go_at_call 19; refine (model_at s k0 x _ hs hk1 HK.out _ HV.out.2).mono ?_; rintro e w2 ⟨rfl, hb2⟩))
    go_ret
    exact ⟨rfl, below_two hb1 hb2⟩
  · have hO' : strO s k0 = false := by simpa using hO
    have HV : Hid (strK s k0 = 0 ∧ strO s k0 = false) := ⟨by unfold strK; rw [hO']; rfl, hO'⟩
    clear hO hO'
    go_enter Try.func6, Try.ntmps6
    go_wp2_with (first | (go_at_call 17; refine (bytes6_any _ _ _ hm).mono ?_; rintro e w' ⟨rfl, rfl⟩; rw [hd]) | (go_at_call 18; refine (zz_at s k0 x _ (by omega) (by omega) HK.out _ _ HV.out).mono ?_; rintro e w1 ⟨rfl, hb1⟩) | (go_at_call 19; refine (model_at s k0 x _ hs hk1 HK.out _ HV.out.2).mono ?_; rintro e w2 ⟨rfl, hb2⟩))
    go_ret
    exact ⟨rfl, below_two hb1 hb2⟩

end Go.Proofs.Qxb6602755a
