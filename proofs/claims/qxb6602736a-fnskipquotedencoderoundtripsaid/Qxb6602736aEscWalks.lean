/-
  THE WALK of b1Escape, and of the length bound of FnSkipQuotedEncodeRoundTrip.
-/
import Derived.Test.Qxb6602736aProg
import Derived.Test.Qxb6602736aPlain
import Derived.Test.Qxb6602736aPlainEsc
import Derived.WalkKit
import Derived.WalkSpells
import Derived.WalkLawsBesides
import Derived.Laws.IdiomStrings
namespace Go.Proofs.Qxb6602736a
open Go.RowKit

theorem Try.info5 : (Try.prog.info? 5).map (fun i => (i.zero, i.size, i.bytes)) = some (some (.int .u8 0), 1, 1) := by kernel_rfl

def bv (c : UInt8) : Value := .int .u8 (c.toNat : Int)

set_option maxHeartbeats 400000 in
theorem bytes8_any (t r : ByteArray) (w : World) (ht : t.size ≤ maxLen) (hr : r.size ≤ maxLen) :
    Calls Try.prog 20 #[.string t, .string r] w fun e w' => e = .returned (.bool (decide (t.size + r.size ≤ 1048576))) ∧ w' = w := by
  unfold maxLen at ht hr
  by_cases h : t.size ≤ 1048576
  · by_cases h2 : r.size ≤ 1048576
    · by_cases h3 : t.size + r.size ≤ 1048576
      · go_enter Try.func20, Try.ntmps20
        go_wp2
        go_ret
        exact ⟨by simp [h3], rfl⟩
      · go_enter Try.func20, Try.ntmps20
        go_wp2
        go_ret
        exact ⟨by simp [h3], rfl⟩
    · go_enter Try.func20, Try.ntmps20
      go_wp2
      go_ret
      exact ⟨by simp; omega, rfl⟩
  · go_enter Try.func20, Try.ntmps20
    go_wp2
    go_ret
    exact ⟨by simp; omega, rfl⟩

theorem ret_str {a b : ByteArray} (h : a = b) : Ending.returned (.string a) = .returned (.string b) := by rw [h]

theorem bv_one (c : UInt8) : ∀ u ∈ [Value.int .u8 (c.toNat : Int)], u.oneCell' = true := by
  intro u hu; simp at hu; subst hu; rfl
theorem bv_92 : ∀ u ∈ [Value.int .u8 92], u.oneCell' = true := by
  intro u hu; simp at hu; subst hu; rfl

/-- One byte more, plain. -/
theorem esc_rel1 {w : World} {B cap n : Nat} {t : ByteArray} {k : Nat} (hk : k < t.size) (h34 : ¬ (t[k].toNat : Int) = 34) (h92 : ¬ (t[k].toNat : Int) = 92)
    (h : w.ownsRow B 5 1 (.slice (some ⟨B, 0, none⟩) ((escL (t.data.toList.take k)).length + 1) cap) ((escL (t.data.toList.take k)).length + 1) ((escL (t.data.toList.take k)).map bv ++ [.int .u8 (t[k].toNat : Int)])) (hn : n = (escL (t.data.toList.take k)).length + 1) :
    n = (escL (t.data.toList.take (k + 1))).length ∧ w.ownsRow B 5 1 (.slice (some ⟨B, 0, none⟩) (escL (t.data.toList.take (k + 1))).length cap) (escL (t.data.toList.take (k + 1))).length ((escL (t.data.toList.take (k + 1))).map bv) := by
  have e1 : ¬ t[k] = 34 := u8_ne t[k] 34 (by omega) h34
  have e2 : ¬ t[k] = 92 := u8_ne t[k] 92 (by omega) h92
  have e : escL (t.data.toList.take (k + 1)) = escL (t.data.toList.take k) ++ [t[k]] := by
    rw [take_snoc t k hk, escL_snoc, escC, if_neg (by simp [e1, e2])]
  rw [e]
  simp only [List.length_append, List.length_cons, List.length_nil, List.map_append, List.map_cons, List.map_nil, Nat.zero_add]
  exact ⟨hn, h⟩

/-- A backslash and the byte. -/
theorem esc_rel2 {w : World} {B cap n : Nat} {t : ByteArray} {k : Nat} (hk : k < t.size) (hc : (t[k].toNat : Int) = 34 ∨ (t[k].toNat : Int) = 92)
    (h : w.ownsRow B 5 1 (.slice (some ⟨B, 0, none⟩) ((escL (t.data.toList.take k)).length + 1 + 1) cap) ((escL (t.data.toList.take k)).length + 1 + 1) ((escL (t.data.toList.take k)).map bv ++ [.int .u8 92] ++ [.int .u8 (t[k].toNat : Int)])) (hn : n = (escL (t.data.toList.take k)).length + 1 + 1) :
    n = (escL (t.data.toList.take (k + 1))).length ∧ w.ownsRow B 5 1 (.slice (some ⟨B, 0, none⟩) (escL (t.data.toList.take (k + 1))).length cap) (escL (t.data.toList.take (k + 1))).length ((escL (t.data.toList.take (k + 1))).map bv) := by
  have e1 : t[k] = 34 ∨ t[k] = 92 := by
    rcases hc with hc | hc
    · exact .inl (u8_eq t[k] 34 (by omega) hc)
    · exact .inr (u8_eq t[k] 92 (by omega) hc)
  have e : escL (t.data.toList.take (k + 1)) = escL (t.data.toList.take k) ++ [92, t[k]] := by
    rw [take_snoc t k hk, escL_snoc, escC, if_pos e1]
  have e3 : ((escL (t.data.toList.take k)).map bv ++ [.int .u8 92] ++ [.int .u8 (t[k].toNat : Int)]) = (escL (t.data.toList.take k) ++ [92, t[k]]).map bv := by
    simp [bv]
  rw [e3] at h
  rw [e]
  simp only [List.length_append, List.length_cons, List.length_nil, Nat.zero_add]
  exact ⟨by omega, h⟩

theorem esc_below {w wr w2 : World} (hb : Below w.heap.size w wr) (o : Obj) (hg : (wr.alloc o).grownBy w2 (some w.heap.size)) : Below w.heap.size w w2 :=
  (hb.alloc hb.size o).grown hg (by have := hb.size; simp; omega) (fun k hk => by cases hk; exact Nat.le_refl _)

theorem esc_cells {w : World} {B g cap : Nat} {l : List UInt8} (h : w.ownsRow B 5 1 (.slice (some ⟨g, 0, none⟩) l.length cap) l.length (l.map bv)) :
    ∀ j (hj : j < l.length), w.cell? ((⟨g, 0, none⟩ : Addr).add j) = some (.int .u8 (l[j].toNat : Int)) := by
  intro j hj
  rw [Addr.add_lit, Nat.zero_add, h.cellAt j (by omega)]
  simp [bv, hj]

set_option maxHeartbeats 1000000 in
theorem esc_any (t : ByteArray) (w : World) (ht : t.size ≤ 262144) :
    Calls Try.prog 21 #[.string t] w fun e w' => e = .returned (.string (escB t)) ∧ Below w.heap.size w w' := by
  obtain ⟨i0, hi, hz0, hz1, hz2⟩ := info_parts Try.info5
  go_enter Try.func21, Try.ntmps21
  go_wp2_with (at_make; refine wpList_make_own _ rfl _ _ 30 rfl w.heap.size 5 i0 (.int .u8 0) 1 Try.underlying30 hi hz0 hz1 _ _ _ (2 * t.size + 2) rfl rfl (by omega) (by rw [hz2]; omega) (by unfold maxLen; omega) (Nat.le_refl _) ?_; intro w1 hown hgrow)
  have hb : Below w.heap.size w w1 := (Below.refl _ _).grown hgrow (Nat.le_refl _) (fun k hk => by cases hk)
  clear hgrow
  go_loopw [3, 4, 5] (fun v i _ wr => ∃ k : Nat, k ≤ t.size ∧ i = .int .i64 k ∧ v = .slice (some ⟨w.heap.size, 0, none⟩) (escL (t.data.toList.take k)).length (2 * t.size + 2) ∧ wr.ownsRow w.heap.size 5 1 (.slice (some ⟨w.heap.size, 0, none⟩) (escL (t.data.toList.take k)).length (2 * t.size + 2)) (escL (t.data.toList.take k)).length ((escL (t.data.toList.take k)).map bv) ∧ Below w.heap.size w wr) (fun _ i _ _ => t.size - (intOf i).toNat)
  case atStart => exact ⟨0, Nat.zero_le _, rfl, rfl, hown, hb⟩
  case round =>
    obtain ⟨k, hk, rfl, rfl, hown', hb'⟩ := hrel
    clear hown hb
    by_cases hlt : k < t.size
    · have hle := escL_le (t.data.toList.take k)
      have hlk : (t.data.toList.take k).length ≤ k := List.length_take_le _ _
      have hsz : w.heap.size < wr.heap.size := hown'.lt _ rfl |>.2
      by_cases h34 : (t[k].toNat : Int) = 34
      · have h34' : ((t[k].toNat : Int) == 34) = true := by simp [h34]
        have HC : Hid ((t[k].toNat : Int) = 34 ∨ (t[k].toNat : Int) = 92) := .inl h34
        clear h34
        go_wp2_with (first | (at_builtin; refine wpList_append_fits _ rfl (.tmp 26) (.tmp 27) 30 rfl w.heap.size 5 i0 1 Try.underlying30 hi hz1 w.heap.size (escL (t.data.toList.take k)).length (2 * t.size + 2) _ rfl (hown'.alloc _) ⟨wr.heap.size, 0, none⟩ 1 1 [.int .u8 92] rfl rfl (cell_one_new _ _ _) bv_92 (by omega) ?_; intro w2 hown2 hgrow2) | (at_builtin; refine wpList_append_fits _ rfl (.tmp 29) (.tmp 31) 30 rfl w.heap.size 5 i0 1 Try.underlying30 hi hz1 w.heap.size ((escL (t.data.toList.take k)).length + 1) (2 * t.size + 2) _ rfl (hown2.alloc _) ⟨w2.heap.size, 0, none⟩ 1 1 [.int .u8 (t[k].toNat : Int)] rfl rfl (cell_one_new _ _ _) (bv_one _) (by omega) ?_; intro w3 hown3 hgrow3))
        have R := esc_rel2 hlt HC.out hown3 rfl
        have hb3 := esc_below (esc_below hb' _ hgrow2) _ hgrow3
        go_roundw
        case rel => exact ⟨k + 1, by omega, by go_num, by rw [R.1], R.2, hb3⟩
        case measure => simp [intOf]; omega
      · have h34' : ((t[k].toNat : Int) == 34) = false := by simp [h34]
        by_cases h92 : (t[k].toNat : Int) = 92
        · have h92' : ((t[k].toNat : Int) == 92) = true := by simp [h92]
          have HC : Hid ((t[k].toNat : Int) = 34 ∨ (t[k].toNat : Int) = 92) := .inr h92
          clear h34 h92
          go_wp2_with (first | (at_builtin; refine wpList_append_fits _ rfl (.tmp 26) (.tmp 27) 30 rfl w.heap.size 5 i0 1 Try.underlying30 hi hz1 w.heap.size (escL (t.data.toList.take k)).length (2 * t.size + 2) _ rfl (hown'.alloc _) ⟨wr.heap.size, 0, none⟩ 1 1 [.int .u8 92] rfl rfl (cell_one_new _ _ _) bv_92 (by omega) ?_; intro w2 hown2 hgrow2) | (at_builtin; refine wpList_append_fits _ rfl (.tmp 29) (.tmp 31) 30 rfl w.heap.size 5 i0 1 Try.underlying30 hi hz1 w.heap.size ((escL (t.data.toList.take k)).length + 1) (2 * t.size + 2) _ rfl (hown2.alloc _) ⟨w2.heap.size, 0, none⟩ 1 1 [.int .u8 (t[k].toNat : Int)] rfl rfl (cell_one_new _ _ _) (bv_one _) (by omega) ?_; intro w3 hown3 hgrow3))
          have R := esc_rel2 hlt HC.out hown3 rfl
          have hb3 := esc_below (esc_below hb' _ hgrow2) _ hgrow3
          go_roundw
          case rel => exact ⟨k + 1, by omega, by go_num, by rw [R.1], R.2, hb3⟩
          case measure => simp [intOf]; omega
        · have h92' : ((t[k].toNat : Int) == 92) = false := by simp [h92]
          have H1 : Hid (¬ (t[k].toNat : Int) = 34) := h34
          have H2 : Hid (¬ (t[k].toNat : Int) = 92) := h92
          clear h34 h92
          go_wp2_with (at_builtin; refine wpList_append_fits _ rfl (.tmp 29) (.tmp 31) 30 rfl w.heap.size 5 i0 1 Try.underlying30 hi hz1 w.heap.size (escL (t.data.toList.take k)).length (2 * t.size + 2) _ rfl (hown'.alloc _) ⟨wr.heap.size, 0, none⟩ 1 1 [.int .u8 (t[k].toNat : Int)] rfl rfl (cell_one_new _ _ _) (bv_one _) (by omega) ?_; intro w3 hown3 hgrow3)
          have R := esc_rel1 hlt H1.out H2.out hown3 rfl
          have hb3 := esc_below hb' _ hgrow3
          go_roundw
          case rel => exact ⟨k + 1, by omega, by go_num, by rw [R.1], R.2, hb3⟩
          case measure => simp [intOf]; omega
    · have HE : Hid (escL (t.data.toList.take k) = escL t.data.toList) := by show _ = _; rw [List.take_of_length_le (by rw [size_list]; omega)]
      have hcv := run_convert_bytes_back (P := Try.prog) wr 30 9 5 ⟨w.heap.size, 0, none⟩ (2 * t.size + 2) (escL (t.data.toList.take k)) Try.underlying30 Try.underlying5 Try.underlying9 (esc_cells hown')
      clear hown'
      go_wp2
      go_ret
      exact ⟨ret_str (by unfold escB; rw [HE.out]), hb'⟩

end Go.Proofs.Qxb6602736a
