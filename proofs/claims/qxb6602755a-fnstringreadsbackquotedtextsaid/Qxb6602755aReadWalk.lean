/-
  THE WALK of FnStringReadsBackQuotedText.
-/
import Derived.Test.Qxb6602755aZZStr
import Derived.Test.Qxb6602755aPlainRead
import Derived.Laws.IdiomStrings
import Derived.Lib.AppendStr
import Derived.Lib.SliceRun
namespace Go.Proofs.Qxb6602755a
open Go.RowKit

theorem Try.byteRow : (Try.prog.info? 5).map (fun i => (i.zero, i.size, i.bytes)) = some (some (.int .u8 0), 1, 1) := by kernel_rfl

set_option maxHeartbeats 400000 in
theorem bytes7_any (t r : ByteArray) (w : World) (ht : t.size ≤ maxLen) (hr : r.size ≤ maxLen) :
    Calls Try.prog 20 #[.string t, .string r] w fun e w' => e = .returned (.bool (decide (t.size + r.size ≤ 1048576))) ∧ w = w' := by
  unfold maxLen at ht hr
  by_cases h : t.size ≤ 1048576
  · by_cases h2 : r.size ≤ 1048576
    · by_cases h3 : t.size + r.size ≤ 1048576
      · go_enter Try.func20, Try.ntmps20
        go_wp2
        go_ret
        exact ⟨by simp [h3], rfl⟩
      · go_enter Try.func20, Try.ntmps20
        go_wp2
        go_ret
        exact ⟨by simp [h3], rfl⟩
    · go_enter Try.func20, Try.ntmps20
      go_wp2
      go_ret
      exact ⟨by simp; omega, rfl⟩
  · go_enter Try.func20, Try.ntmps20
    go_wp2
    go_ret
    exact ⟨by simp; omega, rfl⟩

theorem zzstring_at (s : ByteArray) (k0 : Nat) (x : Int) (w : World) (hs : s.size ≤ 4194304) (hk0 : k0 ≤ 9223372036854775807) (hx : x = (k0 : Int) - 1) (K : Int) (T : ByteArray) (E : Int) (O : Bool) (h : strK s k0 = K ∧ strT s k0 = T ∧ (strE s k0 : Int) = E ∧ strO s k0 = O) :
    Calls Try.prog 18 #[.string s, .int .i64 x] w fun e w' => e = .returned (.tuple #[.int .u8 K, .string T, .int .i64 0, .slice none 0 0, .bool false, .int .i64 E, .bool O]) ∧ Below w.heap.size w w' := by
  obtain ⟨rfl, rfl, rfl, rfl⟩ := h
  exact zzstring_any s k0 x w hs hk0 hx

theorem one_u8 (n : Int) : ∀ u ∈ [Value.int .u8 n], u.oneCell' = true := by
  intro u hu; simp at hu; subst hu; rfl

/-- What is owned: the bytes l, in block B. -/
def Own (w : World) (B cap : Nat) (l : List UInt8) : Prop := w.ownsRow B 5 1 (.slice (some ⟨B, 0, none⟩) l.length cap) l.length (Lib.byteCells l)

theorem own_one {w : World} {B cap : Nat} {l : List UInt8} {c : UInt8} (h : w.ownsRow B 5 1 (.slice (some ⟨B, 0, none⟩) (l.length + 1) cap) (l.length + 1) (Lib.byteCells l ++ [.int .u8 (c.toNat : Int)])) : Own w B cap (l ++ [c]) := by
  have e : Lib.byteCells (l ++ [c]) = Lib.byteCells l ++ [.int .u8 (c.toNat : Int)] := by simp [Lib.byteCells]
  unfold Own; rw [e, List.length_append]; exact h

theorem own_below {w wr w2 : World} (hb : Below w.heap.size w wr) (o : Obj) (hg : (wr.alloc o).grownBy w2 (some w.heap.size)) : Below w.heap.size w w2 :=
  (hb.alloc hb.size o).grown hg (by have := hb.size; simp; omega) (fun k hk => by cases hk; exact Nat.le_refl _)

theorem quo_plain {t : ByteArray} {k : Nat} (hk : k < t.size) (h34 : ¬ (t[k].toNat : Int) = 34) (h92 : ¬ (t[k].toNat : Int) = 92) : quoL (t.data.toList.take (k + 1)) = quoL (t.data.toList.take k) ++ [t[k]] := by
  have e1 : ¬ t[k] = 34 := u8_ne t[k] 34 (by omega) h34
  have e2 : ¬ t[k] = 92 := u8_ne t[k] 92 (by omega) h92
  rw [take_snoc t k hk, quoL_snoc, escC, if_neg (by simp [e1, e2])]
theorem quo_esc {t : ByteArray} {k : Nat} (hk : k < t.size) (hc : (t[k].toNat : Int) = 34 ∨ (t[k].toNat : Int) = 92) : quoL (t.data.toList.take (k + 1)) = quoL (t.data.toList.take k) ++ [92] ++ [t[k]] := by
  have e1 : t[k] = 34 ∨ t[k] = 92 := by
    rcases hc with hc | hc
    · exact .inl (u8_eq t[k] 34 (by omega) hc)
    · exact .inr (u8_eq t[k] 92 (by omega) hc)
  rw [take_snoc t k hk, quoL_snoc, escC, if_pos e1]; simp

theorem below_step' {w0 w w' : World} (h : Below w0.heap.size w0 w) (hb : Below w.heap.size w w') : Below w0.heap.size w0 w' := h.trans (hb.mono h.size)

theorem nil_nil (W : World) : (binOp .eql 22 (.slice none 0 0) (.slice none 0 0)).run Try.prog W = .ok (.bool true) W := by
  rw [Lib.run_eql_slice_nil W 22 5 none 0 0 0 0 Try.underlying22]; rfl

theorem slice_shape {w : World} {B n : Nat} {v : Value} {xs : List Value} (h : w.ownsRow B 5 1 v n xs) (hn : 0 < n) : ∃ g cp, v = .slice (some ⟨g, 0, none⟩) n cp := by
  rcases h.2 with ⟨_, h0⟩ | ⟨g, cap, cur, hv, _⟩
  · omega
  · exact ⟨g, cap, hv⟩

theorem conv_own {w : World} {B g cp n : Nat} {l : List UInt8} (h : w.ownsRow B 5 1 (.slice (some ⟨g, 0, none⟩) n cp) n (Lib.byteCells l)) :
    (convert 22 9 (.slice (some ⟨g, 0, none⟩) n cp)).run Try.prog w = .ok (.string ⟨l.toArray⟩) w := by
  have hn : n = l.length := by have := h.1; rw [Lib.byteCells_length] at this; omega
  subst hn
  refine run_convert_bytes_back (P := Try.prog) w 22 9 5 ⟨g, 0, none⟩ cp l Try.underlying22 Try.underlying5 Try.underlying9 ?_
  intro j hj
  rw [Addr.add_lit, Nat.zero_add, h.cellAt j (by omega)]
  simp [Lib.byteCells, hj]

theorem whole_cells (t r : ByteArray) (m : List UInt8) (hm : m = t.data.toList) : Lib.byteCells (quoL m) ++ [.int .u8 34] ++ Lib.strCells r = Lib.byteCells (quoL t.data.toList ++ [34] ++ r.data.toList) := by
  subst hm
  simp [Lib.byteCells, Lib.strCells]

theorem conv_whole {w : World} {B g cp n : Nat} {t r : ByteArray} {m : List UInt8} (hm : m = t.data.toList) (h : w.ownsRow B 5 1 (.slice (some ⟨g, 0, none⟩) n cp) n (Lib.byteCells (quoL m) ++ [.int .u8 34] ++ Lib.strCells r)) :
    (convert 22 9 (.slice (some ⟨g, 0, none⟩) n cp)).run Try.prog w = .ok (.string (wholeB t r)) w := by
  rw [whole_cells t r m hm] at h
  exact conv_own h

set_option maxRecDepth 10000 in
set_option maxHeartbeats 2000000 in
theorem read_long (t r : ByteArray) (w : World) (ht : t.size ≤ 524288) (hr : r.size ≤ 524288) (htr : t.size + r.size ≤ 1048576) :
    Calls Try.prog 7 #[.string t, .string r] w fun e w' => e = .returned (.bool true) ∧ Below w.heap.size w w' := by
  have hd : decide (t.size + r.size ≤ 1048576) = true := by simp [htr]
  have hmt : t.size ≤ maxLen := by unfold maxLen; omega
  have hmr : r.size ≤ maxLen := by unfold maxLen; omega
  have hnil := nil_nil
  have hd1 : decide ((524288 : Int) < (t.size : Int)) = false := by simp; omega
  have hd2 : decide ((524288 : Int) < (r.size : Int)) = false := by simp; omega
  obtain ⟨i0, hi, hz0, hz1, hz2⟩ := info_parts Try.byteRow
  go_enter Try.func7, Try.ntmps7
  go_wp2_with (first | (go_at_call 20; refine (bytes7_any _ _ _ hmt hmr).mono ?_; rintro e w' ⟨rfl, rfl⟩; rw [hd]) | (at_make; refine wpList_make_own _ rfl _ _ 22 rfl w.heap.size 5 i0 (.int .u8 0) 1 Try.underlying22 hi hz0 hz1 _ _ _ (2 * t.size + 2 + r.size) rfl rfl (by omega) (by rw [hz2]; omega) (by unfold maxLen; omega) (Nat.le_refl _) ?_; intro w1 hown hgrow; have hb1 : Below w.heap.size w w1 := (Below.refl _ _).grown hgrow (Nat.le_refl _) (fun k hk => by cases hk)) | (at_builtin; refine wpList_append_fits _ rfl (.tmp 37) (.tmp 38) 22 rfl w.heap.size 5 i0 1 Try.underlying22 hi hz1 w.heap.size 0 (2 * t.size + 2 + r.size) _ rfl (hown.alloc _) ⟨w1.heap.size, 0, none⟩ 1 1 [.int .u8 34] rfl rfl (cell_one_new _ _ _) (one_u8 _) (by omega) ?_; intro w2 hown2 hgrow2))
  have hb2 := own_below hb1 _ hgrow2
  have h1 : Own w2 w.heap.size (2 * t.size + 2 + r.size) (quoL (t.data.toList.take 0)) := hown2
  clear hown2 hgrow2 hown hgrow hb1
  go_loopw [5, 6, 7, 8] (fun v p i _ wr => ∃ k : Nat, k ≤ t.size ∧ i = .int .i64 k ∧ v = .slice (some ⟨w.heap.size, 0, none⟩) (quoL (t.data.toList.take k)).length (2 * t.size + 2 + r.size) ∧ p = .bool (allTo t k) ∧ Own wr w.heap.size (2 * t.size + 2 + r.size) (quoL (t.data.toList.take k)) ∧ Below w.heap.size w wr) (fun _ _ i _ _ => t.size - (intOf i).toNat)
  case atStart => exact ⟨0, Nat.zero_le _, rfl, rfl, by rw [allTo_zero], h1, hb2⟩
  case round =>
    obtain ⟨k, hk, rfl, rfl, rfl, hown', hb'⟩ := hrel
    unfold Own at hown'
    clear h1 hb2
    have hle := quoL_le (t.data.toList.take k)
    have hlk : (t.data.toList.take k).length ≤ k := List.length_take_le _ _
    by_cases hlt : k < t.size
    · by_cases h34 : (t[k].toNat : Int) = 34
      · have b34 : ((t[k].toNat : Int) == 34) = true := by simp [h34]
        have h32 : ¬ (t[k].toNat : Int) < 32 := by omega
        have h126 : ¬ 126 < (t[k].toNat : Int) := by omega
        have HQ : Hid (quoL (t.data.toList.take (k + 1)) = quoL (t.data.toList.take k) ++ [92] ++ [t[k]]) := quo_esc hlt (.inl h34)
        have HA : Hid (allTo t (k + 1) = allTo t k) := allTo_good t k hlt h32 h126
        clear h34
        go_wp2_with (first | (at_builtin; refine wpList_append_fits _ rfl (.tmp 61) (.tmp 62) 22 rfl w.heap.size 5 i0 1 Try.underlying22 hi hz1 w.heap.size (quoL (t.data.toList.take k)).length (2 * t.size + 2 + r.size) _ rfl (hown'.alloc _) ⟨wr.heap.size, 0, none⟩ 1 1 [.int .u8 92] rfl rfl (cell_one_new _ _ _) (one_u8 _) (by omega) ?_; intro w4 hown4 hgrow4) | (at_builtin; refine wpList_append_fits _ rfl (.tmp 64) (.tmp 66) 22 rfl w.heap.size 5 i0 1 Try.underlying22 hi hz1 w.heap.size ((quoL (t.data.toList.take k)).length + 1) (2 * t.size + 2 + r.size) _ rfl (hown4.alloc _) ⟨w4.heap.size, 0, none⟩ 1 1 [.int .u8 (t[k].toNat : Int)] rfl rfl (cell_one_new _ _ _) (one_u8 _) (by omega) ?_; intro w5 hown5 hgrow5))
        have R : Own w5 w.heap.size (2 * t.size + 2 + r.size) (quoL (t.data.toList.take (k + 1))) := by
          rw [HQ.out]
          have h4 : Own w4 w.heap.size (2 * t.size + 2 + r.size) (quoL (t.data.toList.take k) ++ [92]) := own_one hown4
          refine own_one ?_
          rw [List.length_append]
          have e : Lib.byteCells (quoL (t.data.toList.take k) ++ [92]) = Lib.byteCells (quoL (t.data.toList.take k)) ++ [.int .u8 92] := by simp [Lib.byteCells]
          rw [e]; exact hown5
        have L : Hid ((quoL (t.data.toList.take k)).length + 1 + 1 = (quoL (t.data.toList.take (k + 1))).length) := by show _ = _; rw [HQ.out]; simp
        have hb5 := own_below (own_below hb' _ hgrow4) _ hgrow5
        go_roundw
        case rel => exact ⟨k + 1, by omega, by go_num, by rw [← L.out], by rw [HA.out], R, hb5⟩
        case measure => simp [intOf]; omega
      · have b34 : ((t[k].toNat : Int) == 34) = false := by simp [h34]
        by_cases h92 : (t[k].toNat : Int) = 92
        · have b92 : ((t[k].toNat : Int) == 92) = true := by simp [h92]
          have h32 : ¬ (t[k].toNat : Int) < 32 := by omega
          have h126 : ¬ 126 < (t[k].toNat : Int) := by omega
          have HQ : Hid (quoL (t.data.toList.take (k + 1)) = quoL (t.data.toList.take k) ++ [92] ++ [t[k]]) := quo_esc hlt (.inr h92)
          have HA : Hid (allTo t (k + 1) = allTo t k) := allTo_good t k hlt h32 h126
          clear h34 h92
          go_wp2_with (first | (at_builtin; refine wpList_append_fits _ rfl (.tmp 61) (.tmp 62) 22 rfl w.heap.size 5 i0 1 Try.underlying22 hi hz1 w.heap.size (quoL (t.data.toList.take k)).length (2 * t.size + 2 + r.size) _ rfl (hown'.alloc _) ⟨wr.heap.size, 0, none⟩ 1 1 [.int .u8 92] rfl rfl (cell_one_new _ _ _) (one_u8 _) (by omega) ?_; intro w4 hown4 hgrow4) | (at_builtin; refine wpList_append_fits _ rfl (.tmp 64) (.tmp 66) 22 rfl w.heap.size 5 i0 1 Try.underlying22 hi hz1 w.heap.size ((quoL (t.data.toList.take k)).length + 1) (2 * t.size + 2 + r.size) _ rfl (hown4.alloc _) ⟨w4.heap.size, 0, none⟩ 1 1 [.int .u8 (t[k].toNat : Int)] rfl rfl (cell_one_new _ _ _) (one_u8 _) (by omega) ?_; intro w5 hown5 hgrow5))
          have R : Own w5 w.heap.size (2 * t.size + 2 + r.size) (quoL (t.data.toList.take (k + 1))) := by
            rw [HQ.out]
            have h4 : Own w4 w.heap.size (2 * t.size + 2 + r.size) (quoL (t.data.toList.take k) ++ [92]) := own_one hown4
            refine own_one ?_
            rw [List.length_append]
            have e : Lib.byteCells (quoL (t.data.toList.take k) ++ [92]) = Lib.byteCells (quoL (t.data.toList.take k)) ++ [.int .u8 92] := by simp [Lib.byteCells]
            rw [e]; exact hown5
          have L : Hid ((quoL (t.data.toList.take k)).length + 1 + 1 = (quoL (t.data.toList.take (k + 1))).length) := by show _ = _; rw [HQ.out]; simp
          have hb5 := own_below (own_below hb' _ hgrow4) _ hgrow5
          go_roundw
          case rel => exact ⟨k + 1, by omega, by go_num, by rw [← L.out], by rw [HA.out], R, hb5⟩
          case measure => simp [intOf]; omega
        · have b92 : ((t[k].toNat : Int) == 92) = false := by simp [h92]
          by_cases h32 : (t[k].toNat : Int) < 32
          · have HQ : Hid (quoL (t.data.toList.take (k + 1)) = quoL (t.data.toList.take k) ++ [t[k]]) := quo_plain hlt h34 h92
            have HA : Hid (allTo t (k + 1) = false) := allTo_bad t k hlt (.inl h32)
            clear h34 h92
            go_wp2_with (at_builtin; refine wpList_append_fits _ rfl (.tmp 64) (.tmp 66) 22 rfl w.heap.size 5 i0 1 Try.underlying22 hi hz1 w.heap.size (quoL (t.data.toList.take k)).length (2 * t.size + 2 + r.size) _ rfl (hown'.alloc _) ⟨wr.heap.size, 0, none⟩ 1 1 [.int .u8 (t[k].toNat : Int)] rfl rfl (cell_one_new _ _ _) (one_u8 _) (by omega) ?_; intro w5 hown5 hgrow5)
            have R : Own w5 w.heap.size (2 * t.size + 2 + r.size) (quoL (t.data.toList.take (k + 1))) := by rw [HQ.out]; exact own_one hown5
            have L : Hid ((quoL (t.data.toList.take k)).length + 1 = (quoL (t.data.toList.take (k + 1))).length) := by show _ = _; rw [HQ.out]; simp
            have hb5 := own_below hb' _ hgrow5
            go_roundw
            case rel => exact ⟨k + 1, by omega, by go_num, by rw [← L.out], by rw [HA.out], R, hb5⟩
            case measure => simp [intOf]; omega
          · by_cases h126 : 126 < (t[k].toNat : Int)
            · have HQ : Hid (quoL (t.data.toList.take (k + 1)) = quoL (t.data.toList.take k) ++ [t[k]]) := quo_plain hlt h34 h92
              have HA : Hid (allTo t (k + 1) = false) := allTo_bad t k hlt (.inr h126)
              clear h34 h92
              go_wp2_with (at_builtin; refine wpList_append_fits _ rfl (.tmp 64) (.tmp 66) 22 rfl w.heap.size 5 i0 1 Try.underlying22 hi hz1 w.heap.size (quoL (t.data.toList.take k)).length (2 * t.size + 2 + r.size) _ rfl (hown'.alloc _) ⟨wr.heap.size, 0, none⟩ 1 1 [.int .u8 (t[k].toNat : Int)] rfl rfl (cell_one_new _ _ _) (one_u8 _) (by omega) ?_; intro w5 hown5 hgrow5)
              have R : Own w5 w.heap.size (2 * t.size + 2 + r.size) (quoL (t.data.toList.take (k + 1))) := by rw [HQ.out]; exact own_one hown5
              have L : Hid ((quoL (t.data.toList.take k)).length + 1 = (quoL (t.data.toList.take (k + 1))).length) := by show _ = _; rw [HQ.out]; simp
              have hb5 := own_below hb' _ hgrow5
              go_roundw
              case rel => exact ⟨k + 1, by omega, by go_num, by rw [← L.out], by rw [HA.out], R, hb5⟩
              case measure => simp [intOf]; omega
            · have HQ : Hid (quoL (t.data.toList.take (k + 1)) = quoL (t.data.toList.take k) ++ [t[k]]) := quo_plain hlt h34 h92
              have HA : Hid (allTo t (k + 1) = allTo t k) := allTo_good t k hlt h32 h126
              clear h34 h92
              go_wp2_with (at_builtin; refine wpList_append_fits _ rfl (.tmp 64) (.tmp 66) 22 rfl w.heap.size 5 i0 1 Try.underlying22 hi hz1 w.heap.size (quoL (t.data.toList.take k)).length (2 * t.size + 2 + r.size) _ rfl (hown'.alloc _) ⟨wr.heap.size, 0, none⟩ 1 1 [.int .u8 (t[k].toNat : Int)] rfl rfl (cell_one_new _ _ _) (one_u8 _) (by omega) ?_; intro w5 hown5 hgrow5)
              have R : Own w5 w.heap.size (2 * t.size + 2 + r.size) (quoL (t.data.toList.take (k + 1))) := by rw [HQ.out]; exact own_one hown5
              have L : Hid ((quoL (t.data.toList.take k)).length + 1 = (quoL (t.data.toList.take (k + 1))).length) := by show _ = _; rw [HQ.out]; simp
              have hb5 := own_below hb' _ hgrow5
              go_roundw
              case rel => exact ⟨k + 1, by omega, by go_num, by rw [← L.out], by rw [HA.out], R, hb5⟩
              case measure => simp [intOf]; omega
    · have HT : Hid (t.data.toList.take k = t.data.toList) := List.take_of_length_le (by rw [size_list]; omega)
      have HP : Hid (allTo t k = allP t) := allTo_end t k (by omega)
      have hws : (wholeB t r).size ≤ 4194304 := by rw [whole_size, ← HT.out]; omega
      by_cases hall : allTo t k = true
      · have HR : Hid (strK (wholeB t r) 1 = 2 ∧ strT (wholeB t r) 1 = t ∧ ((strE (wholeB t r) 1 : Nat) : Int) = ((quoL (t.data.toList.take k)).length : Int) + 1 ∧ strO (wholeB t r) 1 = true) := by
          have h := whole_good t r (HP.out ▸ hall)
          refine ⟨h.1, h.2.1, ?_, h.2.2.2⟩
          rw [h.2.2.1, HT.out]; omega
        rw [hall]
        clear hall HP
        go_wp2_with (first | (at_builtin; refine wpList_append_fits _ rfl (.tmp 68) (.tmp 69) 22 rfl w.heap.size 5 i0 1 Try.underlying22 hi hz1 w.heap.size (quoL (t.data.toList.take k)).length (2 * t.size + 2 + r.size) _ rfl (hown'.alloc _) ⟨wr.heap.size, 0, none⟩ 1 1 [.int .u8 34] rfl rfl (cell_one_new _ _ _) (one_u8 _) (by omega) ?_; intro w4 hown4 hgrow4; have hb4 := own_below hb' _ hgrow4) | (at_builtin; refine Lib.wpList_append_own_string _ rfl (.tmp 73) (.tmp 74) 22 9 rfl w.heap.size 5 i0 Try.underlying22 Try.underlying9 hi hz0 hz1 hz2 _ _ _ rfl hown4 r rfl (by unfold maxLen; omega) (by omega) hb4.size ?_; intro v6 w6 hown6 hgrow6 hx6; clear hx6; obtain ⟨g, cp, hv⟩ := slice_shape hown6 (by omega); subst hv; have hcv := conv_whole HT.out hown6; have hb6 := hb4.grown hgrow6 hb4.size (fun k hk => by cases hk; exact Nat.le_refl _)) | (go_at_call 18; refine (zzstring_at (wholeB t r) 1 0 _ hws (by omega) (by omega) _ _ _ _ HR.out).mono ?_; rintro e w7 ⟨rfl, hb7⟩))
        go_ret
        exact ⟨rfl, below_step' hb6 hb7⟩
      · have hall' : allTo t k = false := by simpa using hall
        have HR : Hid (strK (wholeB t r) 1 = strK (wholeB t r) 1 ∧ strT (wholeB t r) 1 = strT (wholeB t r) 1 ∧ ((strE (wholeB t r) 1 : Nat) : Int) = ((strE (wholeB t r) 1 : Nat) : Int) ∧ strO (wholeB t r) 1 = false) :=
          ⟨rfl, rfl, rfl, whole_bad t r (HP.out ▸ hall')⟩
        rw [hall']
        clear hall hall' HP
        go_wp2_with (first | (at_builtin; refine wpList_append_fits _ rfl (.tmp 68) (.tmp 69) 22 rfl w.heap.size 5 i0 1 Try.underlying22 hi hz1 w.heap.size (quoL (t.data.toList.take k)).length (2 * t.size + 2 + r.size) _ rfl (hown'.alloc _) ⟨wr.heap.size, 0, none⟩ 1 1 [.int .u8 34] rfl rfl (cell_one_new _ _ _) (one_u8 _) (by omega) ?_; intro w4 hown4 hgrow4; have hb4 := own_below hb' _ hgrow4) | (at_builtin; refine Lib.wpList_append_own_string _ rfl (.tmp 73) (.tmp 74) 22 9 rfl w.heap.size 5 i0 Try.underlying22 Try.underlying9 hi hz0 hz1 hz2 _ _ _ rfl hown4 r rfl (by unfold maxLen; omega) (by omega) hb4.size ?_; intro v6 w6 hown6 hgrow6 hx6; clear hx6; obtain ⟨g, cp, hv⟩ := slice_shape hown6 (by omega); subst hv; have hcv := conv_whole HT.out hown6; have hb6 := hb4.grown hgrow6 hb4.size (fun k hk => by cases hk; exact Nat.le_refl _)) | (go_at_call 18; refine (zzstring_at (wholeB t r) 1 0 _ hws (by omega) (by omega) _ _ _ _ HR.out).mono ?_; rintro e w7 ⟨rfl, hb7⟩))
        go_ret
        exact ⟨rfl, below_step' hb6 hb7⟩

theorem read_short (t r : ByteArray) (w : World) (hmt : t.size ≤ maxLen) (hmr : r.size ≤ maxLen) (h : 524288 < t.size ∨ 524288 < r.size ∨ 1048576 < t.size + r.size) :
    Calls Try.prog 7 #[.string t, .string r] w fun e w' => e = .returned (.bool true) ∧ Below w.heap.size w w' := by
  have h1 := hmt
  have h2 := hmr
  unfold maxLen at h1 h2
  by_cases h0 : t.size + r.size ≤ 1048576
  · have hd : decide (t.size + r.size ≤ 1048576) = true := by simp [h0]
    by_cases h3 : 524288 < t.size
    · go_enter Try.func7, Try.ntmps7
      go_wp2_with (go_at_call 20; refine (bytes7_any _ _ _ hmt hmr).mono ?_; rintro e w' ⟨rfl, rfl⟩; rw [hd])
      go_ret
      exact ⟨rfl, Below.refl _ _⟩
    · have h4 : 524288 < r.size := by omega
      go_enter Try.func7, Try.ntmps7
      go_wp2_with (go_at_call 20; refine (bytes7_any _ _ _ hmt hmr).mono ?_; rintro e w' ⟨rfl, rfl⟩; rw [hd])
      go_ret
      exact ⟨rfl, Below.refl _ _⟩
  · have hd : decide (t.size + r.size ≤ 1048576) = false := by simp [h0]
    go_enter Try.func7, Try.ntmps7
    go_wp2_with (go_at_call 20; refine (bytes7_any _ _ _ hmt hmr).mono ?_; rintro e w' ⟨rfl, rfl⟩; rw [hd])
    go_ret
    exact ⟨rfl, Below.refl _ _⟩

end Go.Proofs.Qxb6602755a
