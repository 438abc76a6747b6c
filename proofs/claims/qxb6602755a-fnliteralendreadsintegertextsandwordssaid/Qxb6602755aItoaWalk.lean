/-
  THE WALK of zzItoa: the text is a decimal text (its sign ahead, no leading zero).
-/
import Derived.Test.Qxb6602755aProg
import Derived.Test.Qxb6602755aPlainItoa
import Derived.WalkKit
import Derived.WalkSpells
import Derived.WalkLawsBesides
import Derived.Laws.BytesArg
import Derived.Lib.Builder
namespace Go.Proofs.Qxb6602755a
open Go.RowKit

theorem neg_wrap (u : Nat) (h : u ≤ 9223372036854775808) (h0 : 0 < u) : IntKind.u64.wrap (-IntKind.u64.wrap (-(u : Int))) = (u : Int) := by
  simp only [IntKind.wrap_u64]
  omega

/-- The array's cells: zeros, then what is written. -/
def bufL (D : List Int) : List Value := List.replicate (20 - D.length) (.int .u8 0) ++ D.map (Value.int .u8)

/-- The array stands in block B. -/
def Buf (w : World) (B : Nat) (D : List Int) : Prop := w.heap[B]? = some (.cells (bufL D).toArray 39 (0, 0))

theorem Buf.cell {w : World} {B j : Nat} {D : List Int} (h : Buf w B D) (hj : j + 1 + D.length = 20) : w.cell? ⟨B, j, none⟩ = some (.int .u8 0) := by
  rw [Lib.cell_of_heap h]
  have e : 20 - D.length = j + 1 := by omega
  rw [List.getElem?_toArray, bufL, e, List.getElem?_append_left (by simp)]
  simp

theorem Buf.free {w : World} {B : Nat} {D : List Int} (h : Buf w B D) (j : Nat) : w.frozen? ⟨B, j, none⟩ = false := Lib.frozen_of_heap h j

theorem Buf.put {w : World} {B j : Nat} {D : List Int} (h : Buf w B D) (hj : j + 1 + D.length = 20) (c : Int) : Buf (w.setCell ⟨B, j, none⟩ (.int .u8 c)) B (c :: D) := by
  unfold Buf at h ⊢
  have e : (bufL D).toArray.setIfInBounds j (.int .u8 c) = (bufL (c :: D)).toArray := by
    have e1 : 20 - D.length = j + 1 := by omega
    have e2 : 20 - (c :: D).length = j := by rw [List.length_cons]; omega
    unfold bufL
    rw [e1, e2, List.replicate_succ']
    apply Array.ext'
    simp
  simp only [World.setCell, Array.getElem?_modify, h, Option.map_some]
  simp [e]

theorem Buf.num {w : World} {B j : Nat} {D : List Int} (h : Buf w B D) (hj : j + D.length = 20) : ∀ i, i < D.length → w.cell? ⟨B, j + i, none⟩ = some (.int .u8 (D.getD i 0)) := by
  intro i hi
  rw [Lib.cell_of_heap h]
  have e : 20 - D.length = j := by omega
  simp [bufL, e, hi, List.getD]

theorem slice20 (B j : Nat) (h : j < 20) (W : World) : (Instr.sliceAt 39 (.pointer (some ⟨B, 0, none⟩)) (some (.int .i64 (j : Int))) none none).run Try.prog W = .ok (.slice (some ⟨B, j, none⟩) (20 - j) (20 - j)) W := by
  have hu := Try.underlying39
  have hl : Try.prog.arrayLen 39 = 20 := by unfold Program.arrayLen; rw [hu]
  have he : Try.prog.elem 39 = 5 := by unfold Program.elem; rw [hu]
  have hne : ¬ 20 = j := by omega
  rw [run_sliceAt_array_l W 39 ⟨B, 0, none⟩ (by rw [hl, he]; exact hu) .i64 (j : Int) (by omega) (by rw [hl]; omega)]
  rw [hl, he, Try.sizeOf5 W]
  simp [Result.andThen, slicedAt, hne, Addr.add_lit]

theorem heap_new' (w : World) (o : Obj) : (w.alloc o).heap[w.heap.size]? = some o := by
  show (w.heap.push o)[w.heap.size]? = _
  simp

set_option maxHeartbeats 400000 in
theorem itoa_pos (u : Nat) (w : World) (h1 : (u : Int) ≤ 9223372036854775807) :
    Calls Try.prog 16 #[.int .i64 (u : Int)] w fun e w' => (∃ D, Dec D ∧ D.length ≤ 20 ∧ e = .returned (.string (strOfNums D))) ∧ Below w.heap.size w w' := by
  have hn : ¬ (u : Int) < 0 := by omega
  go_enter Try.func16, Try.ntmps16
  go_wp2
  go_loopw [4, 5] (fun i x wr => ∃ (D : List Int) (v j : Nat), j + D.length = 20 ∧ i = .int .i64 j ∧ x = .int .u64 v ∧ v ≤ u ∧ DS v D ∧ Buf wr w.heap.size D ∧ Below w.heap.size w wr) (fun _ x _ => (intOf x).toNat)
  case atStart => exact ⟨[48 + ((u % 10 : Nat) : Int)], u / 10, 19, rfl, rfl, by go_num, by omega, DS.start u (by omega), heap_new' _ _, (Below.refl _ _).alloc (Nat.le_refl _) _⟩
  case round =>
    obtain ⟨D, v, j, hj, rfl, rfl, hv, hds, hbuf, hb⟩ := hrel
    have HJ : Hid (j + D.length = 20) := hj
    clear hj
    by_cases h0 : 0 < v
    · have hsh := hds.short h0
      obtain ⟨i, rfl⟩ : ∃ i, j = i + 1 := ⟨j - 1, by have := HJ.out; omega⟩
      have c0 := hbuf.cell (j := i) HJ.out
      have f0 := hbuf.free i
      have hi : i < 20 := by have := HJ.out; omega
      have HBU : Hid (Buf wr w.heap.size D) := hbuf
      have HDS : Hid (DS v D) := hds
      clear hbuf hds
      go_wp2
      go_roundw
      case rel => exact ⟨(48 + ((v % 10 : Nat) : Int)) :: D, v / 10, i, by have := HJ.out; rw [List.length_cons]; omega, rfl, by go_num, by omega, HDS.out.step h0, by have h := HBU.out.put HJ.out (48 + ((v % 10 : Nat) : Int)); simpa using h, hb.setCell (p := ⟨w.heap.size, i, none⟩) (Nat.le_refl _) _⟩
      case measure => simp [intOf]; omega
    · obtain rfl : v = 0 := by omega
      have hdec := hds.dec
      have hj20 : j < 20 := by
        have := HJ.out
        have : D.length ≠ 0 := fun e => hdec.ne (List.eq_nil_of_length_eq_zero e)
        omega
      have hcv := run_convert_bytes_arg (P := Try.prog) wr 22 5 Try.underlying22 Try.underlying5 w.heap.size j (20 - j) (20 - j) D (by have := HJ.out; omega) (fun i hi => hbuf.num HJ.out i (by have := HJ.out; omega)) 9 Try.underlying9
      have hsl := slice20 w.heap.size j hj20
      have HDL : Hid (D.length ≤ 20) := by have := HJ.out; show D.length ≤ 20; omega
      clear hbuf
      go_wp2
      go_ret
      exact ⟨⟨D, hdec, HDL.out, rfl⟩, hb⟩

set_option maxHeartbeats 400000 in
theorem itoa_neg (u : Nat) (w : World) (hu0 : 0 < u) (h1 : u ≤ 9223372036854775808) :
    Calls Try.prog 16 #[.int .i64 (-(u : Int))] w fun e w' => (∃ D, Dec D ∧ D.length ≤ 19 ∧ e = .returned (.string (strOfNums (45 :: D)))) ∧ Below w.heap.size w w' := by
  have hn : -(u : Int) < 0 := by omega
  have hw := neg_wrap u h1 hu0
  go_enter Try.func16, Try.ntmps16
  go_wp2
  go_loopw [4, 5] (fun i x wr => ∃ (D : List Int) (v j : Nat), j + D.length = 20 ∧ 1 ≤ j ∧ i = .int .i64 j ∧ x = .int .u64 v ∧ v ≤ u ∧ DS v D ∧ Buf wr w.heap.size D ∧ Below w.heap.size w wr) (fun _ x _ => (intOf x).toNat)
  case atStart => exact ⟨[48 + ((u % 10 : Nat) : Int)], u / 10, 19, rfl, by omega, rfl, by go_num, by omega, DS.start u (by omega), heap_new' _ _, (Below.refl _ _).alloc (Nat.le_refl _) _⟩
  case round =>
    obtain ⟨D, v, j, hj, hj1, rfl, rfl, hv, hds, hbuf, hb⟩ := hrel
    have HJ : Hid (j + D.length = 20) := hj
    clear hj
    by_cases h0 : 0 < v
    · have hsh := hds.short h0
      obtain ⟨i, rfl⟩ : ∃ i, j = i + 1 := ⟨j - 1, by have := HJ.out; omega⟩
      have c0 := hbuf.cell (j := i) HJ.out
      have f0 := hbuf.free i
      have hi : i < 20 := by have := HJ.out; omega
      have HBU : Hid (Buf wr w.heap.size D) := hbuf
      have HDS : Hid (DS v D) := hds
      clear hbuf hds
      go_wp2
      go_roundw
      case rel => exact ⟨(48 + ((v % 10 : Nat) : Int)) :: D, v / 10, i, by have := HJ.out; rw [List.length_cons]; omega, by have := HJ.out; omega, rfl, by go_num, by omega, HDS.out.step h0, by have h := HBU.out.put HJ.out (48 + ((v % 10 : Nat) : Int)); simpa using h, hb.setCell (p := ⟨w.heap.size, i, none⟩) (Nat.le_refl _) _⟩
      case measure => simp [intOf]; omega
    · obtain rfl : v = 0 := by omega
      have hdec := hds.dec
      obtain ⟨i, rfl⟩ : ∃ i, j = i + 1 := ⟨j - 1, by omega⟩
      have c0 := hbuf.cell (j := i) HJ.out
      have f0 := hbuf.free i
      have hi : i < 20 := by have := HJ.out; omega
      have hb2 := hbuf.put (j := i) HJ.out 45
      have hcv := run_convert_bytes_arg (P := Try.prog) (wr.setCell ⟨w.heap.size, i, none⟩ (.int .u8 45)) 22 5 Try.underlying22 Try.underlying5 w.heap.size i (20 - i) (20 - i) (45 :: D) (by have := HJ.out; rw [List.length_cons]; omega) (fun k hk => hb2.num (j := i) (by have := HJ.out; rw [List.length_cons]; omega) k (by have := HJ.out; rw [List.length_cons]; omega)) 9 Try.underlying9
      have hsl := slice20 w.heap.size i hi
      have HDL : Hid (D.length ≤ 19) := by have := HJ.out; show D.length ≤ 19; omega
      clear hbuf hb2
      go_wp2
      go_ret
      exact ⟨⟨D, hdec, HDL.out, rfl⟩, hb.setCell (p := ⟨w.heap.size, i, none⟩) (Nat.le_refl _) _⟩

end Go.Proofs.Qxb6602755a
