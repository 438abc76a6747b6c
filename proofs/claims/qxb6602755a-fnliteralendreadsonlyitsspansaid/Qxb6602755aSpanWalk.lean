/-
  THE WALK of FnLiteralEndReadsOnlyItsSpan.
-/
import Derived.Test.Qxb6602755aCopyParts
import Derived.Test.Qxb6602755aPlainSpan
namespace Go.Proofs.Qxb6602755a
open Go.RowKit

set_option maxHeartbeats 400000 in
theorem bytes4_any (a : Option Addr) (n c : Nat) (x : Int) (w : World) (hn : n ≤ maxLen) :
    Calls Try.prog 12 #[.slice a n c, .int .i64 x] w fun e w' => e = .returned (.bool (decide (n ≤ 1048576))) ∧ w = w' := by
  unfold maxLen at hn
  by_cases h : n ≤ 1048576
  · go_enter Try.func12, Try.ntmps12
    go_wp2
    go_ret
    exact ⟨by simp [h], rfl⟩
  · go_enter Try.func12, Try.ntmps12
    go_wp2
    go_ret
    exact ⟨by simp [h], rfl⟩

set_option maxHeartbeats 400000 in
theorem span_short (a : Option Addr) (n c : Nat) (x : Int) (w : World) (hn : n ≤ maxLen) (hx : n > 1048576 ∨ x < 0 ∨ (n : Int) ≤ x) :
    Calls Try.prog 4 #[.slice a n c, .int .i64 x] w fun e w' => e = .returned (.bool true) ∧ Below w.heap.size w w' := by
  have hm := hn
  unfold maxLen at hn
  by_cases h : n ≤ 1048576
  · have hd : decide (n ≤ 1048576) = true := by simp [h]
    by_cases h0 : x < 0
    · go_enter Try.func4, Try.ntmps4
      go_wp2_with (go_at_call 12; refine (bytes4_any _ _ _ _ _ hm).mono ?_; rintro e w' ⟨rfl, rfl⟩; rw [hd])
      go_ret
      exact ⟨rfl, Below.refl _ _⟩
    · have h1 : (n : Int) ≤ x := by omega
      go_enter Try.func4, Try.ntmps4
      go_wp2_with (go_at_call 12; refine (bytes4_any _ _ _ _ _ hm).mono ?_; rintro e w' ⟨rfl, rfl⟩; rw [hd])
      go_ret
      exact ⟨rfl, Below.refl _ _⟩
  · have hd : decide (n ≤ 1048576) = false := by simp [h]
    go_enter Try.func4, Try.ntmps4
    go_wp2_with (go_at_call 12; refine (bytes4_any _ _ _ _ _ hm).mono ?_; rintro e w' ⟨rfl, rfl⟩; rw [hd])
    go_ret
    exact ⟨rfl, Below.refl _ _⟩

set_option maxRecDepth 10000 in
set_option maxHeartbeats 1000000 in
theorem span_long (x : Addr) (l : List Int) (hl : Bytes l) (n c pos : Nat) (w : World) (hln : n = l.length) (hn : n ≤ 1048576) (hp : pos < n)
    (cl : ∀ i, i < n → w.cell? (x.add i) = some (.int .u8 (el l i))) :
    Calls Try.prog 4 #[.slice (some x) n c, .int .i64 pos] w fun e w' => e = .returned (.bool true) ∧ Below w.heap.size w w' := by
  have hm : n ≤ maxLen := by unfold maxLen; omega
  have hd : decide (n ≤ 1048576) = true := by simp [hn]
  have LN : Hid (n = l.length) := hln
  have CL : Hid (∀ i, i < n → w.cell? (x.add i) = some (.int .u8 (el l i))) := cl
  clear cl hln
  obtain ⟨i0, hi, hz0, hz1, hz2⟩ := info_parts Try.info5
  have HL : Hid ((l.map (Value.int .u8)).length = Nat.min n n) := by show _ = _; rw [List.length_map, ← LN.out]; exact (Nat.min_self n).symm
  have hge := litE_ge l pos
  have hle : litE l pos ≤ n := by have h := litE_le l pos (by rw [← LN.out]; omega); rw [← LN.out] at h; exact h
  have hsh := lit_shift l pos
  have hcp : ¬ n = pos := by omega
  have HO : Hid (litO (l.drop pos) 0 = litO l pos) := hsh.2
  have hne : (((litE (l.drop pos) 0 : Nat) : Int) != (litE l pos : Int) - (pos : Int)) = false := by
    have := hsh.1; rw [bne_eq_false_iff_eq]; omega
  have LD : Hid (n - pos = (l.drop pos).length) := by show _ = _; rw [List.length_drop, ← LN.out]
  clear hsh
  go_enter Try.func4, Try.ntmps4
  go_wp2_with (first | (go_at_call 12; refine (bytes4_any _ _ _ _ _ hm).mono ?_; rintro e w' ⟨rfl, rfl⟩; rw [hd]) | (at_make; refine wpList_make_full _ rfl _ _ 22 rfl w.heap.size 5 i0 (.int .u8 0) 1 Try.underlying22 hi hz0 hz1 _ _ _ _ n rfl rfl rfl rfl (by rw [hz2]; omega) hm (Nat.le_refl _) ?_; intro w1 hown hgrow; obtain ⟨cur, hg, hcl⟩ := own_row hown; have HG : Hid (w1.heap[w.heap.size]? = some (.cells cur.toArray 5 (0, 0))) := hg; have HC : Hid (cur.length = n) := hcl; have hb1 := grown_none hgrow; clear hg hcl hown hgrow) | (have _t := HG; refine wpList_copy_splice rfl (.tmp 30) (.tmp 31) 22 22 rfl 5 Try.underlying22 Try.size5 (some ⟨w.heap.size, 0, none⟩) (some x) n n n c rfl rfl w.heap.size 0 cur 5 HG.out (l.map (Value.int .u8)) HL.out (fun _ => ⟨rfl, x, rfl, src_cells hb1 LN.out CL.out⟩) (by rw [List.length_map, ← LN.out, HC.out]; omega) (nums_one l) w.heap.size w hb1 (Nat.le_refl _) ?_; intro w2 HG2 hb2; clear HG) | (go_at_call 10; go_in))
  have c2 := nums_cells HG2.out (HC.out.trans LN.out)
  rw [← LN.out] at c2
  have s2 := heap_lt HG2.out
  have C2 : Hid (∀ i, i < n → w2.cell? ⟨w.heap.size, 0 + i, none⟩ = some (.int .u8 (el l i))) := c2
  clear c2 HG2 HC hb1 CL
  refine (litEnd_at l hl w.heap.size 0 n n pos _ w2 LN.out rfl (Nat.le_refl _) hp (by omega) s2 C2.out).mono ?_
  rintro e w3 ⟨rfl, hb3⟩
  have C3 : Hid (∀ i, i < n → w3.cell? ⟨w.heap.size, 0 + i, none⟩ = some (.int .u8 (el l i))) := below_cells hb3 s2 C2.out
  have s3 : w.heap.size < w3.heap.size := Nat.lt_of_lt_of_le s2 hb3.size
  have b3 := below_step hb2 (Nat.le_of_lt s2) hb3
  clear C2 hb2 hb3 s2
  by_cases hOk : litO l pos = true
  · have hlt := lit_nonempty l pos hOk
    have HCU : Hid (litE (l.take (litE l pos)) pos = litE l pos ∧ litO (l.take (litE l pos)) pos = true) := lit_at_end l pos hOk
    have LT : Hid (litE l pos = (l.take (litE l pos)).length) := by show _ = _; rw [List.length_take, ← LN.out]; omega
    have hee : ((litE l pos : Int) == (pos : Int)) = false := beq_false_of_ne (by omega)
    rw [hOk]
    go_wp2_with ((go_at_call 10; go_in))
    refine (litEnd_at (l.drop pos) (hl.drop pos) w.heap.size pos (n - pos) (n - pos) 0 _ w3 LD.out rfl (Nat.le_refl _) (by omega) (by omega) s3 (fun i hi => by rw [el_drop]; have h := C3.out (pos + i) (by omega); rw [Nat.zero_add] at h; exact h)).mono ?_
    rintro e w4 ⟨rfl, hb4⟩
    have C4 : Hid (∀ i, i < n → w4.cell? ⟨w.heap.size, 0 + i, none⟩ = some (.int .u8 (el l i))) := below_cells hb4 s3 C3.out
    have s4 : w.heap.size < w4.heap.size := Nat.lt_of_lt_of_le s3 hb4.size
    have b4 := below_step b3 (Nat.le_of_lt s3) hb4
    clear C3 b3 hb4 s3
    rw [HO.out, hOk]
    go_wp2_with ((go_at_call 10; go_in))
    refine (litEnd_at (l.take (litE l pos)) (hl.take _) w.heap.size 0 n (litE l pos) pos _ w4 LT.out rfl hle hlt (by omega) s4 (fun i hi => by rw [el_take hi]; exact C4.out i (by omega))).mono ?_
    rintro e w5 ⟨rfl, hb5⟩
    have b5 := below_step b4 (Nat.le_of_lt s4) hb5
    clear C4 b4 hb5 s4
    rw [HCU.out.1, HCU.out.2]
    go_wp2_with ((go_at_call 10; go_in))
    go_ret
    exact ⟨rfl, b5⟩
  · have hOk' : litO l pos = false := by simpa using hOk
    rw [hOk']
    clear hOk
    go_wp2_with ((go_at_call 10; go_in))
    refine (litEnd_at (l.drop pos) (hl.drop pos) w.heap.size pos (n - pos) (n - pos) 0 _ w3 LD.out rfl (Nat.le_refl _) (by omega) (by omega) s3 (fun i hi => by rw [el_drop]; have h := C3.out (pos + i) (by omega); rw [Nat.zero_add] at h; exact h)).mono ?_
    rintro e w4 ⟨rfl, hb4⟩
    have b4 := below_step b3 (Nat.le_of_lt s3) hb4
    clear C3 b3 hb4 s3
    rw [HO.out, hOk']
    go_wp2_with ((go_at_call 10; go_in))
    go_ret
    exact ⟨rfl, b4⟩

end Go.Proofs.Qxb6602755a
