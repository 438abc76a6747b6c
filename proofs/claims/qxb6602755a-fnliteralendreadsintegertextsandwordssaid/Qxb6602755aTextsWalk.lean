/-
  THE WALK of FnLiteralEndReadsIntegerTextsAndWords.
-/
import Derived.Test.Qxb6602755aCopyParts
import Derived.Test.Qxb6602755aItoaWalk
import Derived.Lib.AppendStr
import Derived.Deep.DeepCutAuto
namespace Go.Proofs.Qxb6602755a
open Go.RowKit

def nums (s : ByteArray) : List Int := s.data.toList.map fun c => (c.toNat : Int)

theorem nums_len (s : ByteArray) : (nums s).length = s.size := by simp [nums]
theorem nums_bytes (s : ByteArray) : Bytes (nums s) := by
  intro n hn
  unfold nums at hn
  obtain ⟨c, _, rfl⟩ := List.mem_map.1 hn
  have := c.toNat_lt
  omega
theorem strCells_nums (s : ByteArray) : Lib.strCells s = (nums s).map (Value.int .u8) := by
  unfold Lib.strCells nums; rw [List.map_map]; rfl

theorem nums_str (D : List Int) (h : ∀ c ∈ D, 0 ≤ c ∧ c ≤ 255) : nums (strOfNums D) = D := by
  unfold nums; rw [strOfNums_data, List.map_map]
  induction D with
  | nil => rfl
  | cons c D ih =>
    have hc := h c (by simp)
    rw [List.map_cons, ih (fun x hx => h x (by simp [hx]))]
    congr 1
    show ((UInt8.ofNat c.toNat).toNat : Int) = c
    rw [UInt8.toNat_ofNat']; omega

theorem own_le {w : World} {B g cp n : Nat} {xs : List Value} (h : w.ownsRow B 5 1 (.slice (some ⟨g, 0, none⟩) n cp) n xs) : n ≤ cp ∧ n = xs.length := by
  obtain ⟨h1, h | ⟨g', cap, cur, hv, _, _, hc, _⟩⟩ := h
  · exact absurd h.1 (by simp)
  · simp only [Value.slice.injEq] at hv
    obtain ⟨_, _, rfl⟩ := hv
    exact ⟨hc, by omega⟩

/-- literalEnd over a text that the call has written: it is read whole. -/
theorem lit_q (T r : ByteArray) (hT : lit (nums T ++ nums r) = (T.size, true)) (B g cp n : Nat) (w : World) (h : w.ownsRow B 5 1 (.slice (some ⟨g, 0, none⟩) n cp) n (Lib.strCells T ++ Lib.strCells r)) (hp : 0 < T.size) (hb : T.size + r.size ≤ 4194304) (N : Int) (hN : (T.size : Int) = N) :
    Calls Try.prog 22 #[.slice (some ⟨g, 0, none⟩) n cp, .int .i64 0] w fun e w' => e = .returned (.tuple #[.int .i64 N, .bool true]) ∧ Below w.heap.size w w' := by
  subst hN
  have hl := own_le h
  rw [List.length_append, Lib.strCells_length, Lib.strCells_length] at hl
  have hn : n = (nums T ++ nums r).length := by rw [List.length_append, nums_len, nums_len]; exact hl.2
  have hlit := litE_zero _ _ hT
  have hB : Bytes (nums T ++ nums r) := by
    intro x hx
    rcases List.mem_append.1 hx with hx | hx
    · exact nums_bytes T x hx
    · exact nums_bytes r x hx
  have hc := litEnd_at (nums T ++ nums r) hB g 0 cp n 0 0 w hn rfl hl.1 (by omega) (by omega) (h.lt g rfl).2 (fun i hi => by
    rw [Nat.zero_add, h.cellAt i (by omega), strCells_nums, strCells_nums, ← List.map_append]
    have hi' : i < (nums T ++ nums r).length := by omega
    rw [List.getElem?_map, List.getElem?_eq_getElem hi']
    simp only [Option.map_some, el, List.getD, List.getElem?_eq_getElem hi', Option.getD_some])
  refine hc.mono fun e w' ⟨he, hbel⟩ => ⟨?_, hbel⟩
  rw [he, hlit.1, hlit.2]

theorem shape2 {w : World} {B n : Nat} {v : Value} {xs : List Value} (h : w.ownsRow B 5 1 v n xs) (hn : 0 < n) : ∃ g cp, v = .slice (some ⟨g, 0, none⟩) n cp := by
  rcases h.2 with ⟨_, h0⟩ | ⟨g, cap, cur, hv, _⟩
  · omega
  · exact ⟨g, cap, hv⟩

/-- make, append, append: nothing old turns. -/
theorem q_below {w wr w1 w2 w3 : World} {v2 : Value} {n : Nat} {xs : List Value} (hb : Below w.heap.size w wr) (g1 : wr.grownBy w1 none) (g2 : w1.grownBy w2 (some wr.heap.size)) (h2 : w2.ownsRow wr.heap.size 5 1 v2 n xs) (g3 : w2.grownBy w3 v2.ownBlock) : Below w.heap.size w w3 := by
  have s1 := g1.size
  have s2 := g2.size
  have s0 := hb.size
  have b1 := hb.grown g1 s0 (fun k hk => by cases hk)
  have b2 := b1.grown g2 (by omega) (fun k hk => by cases hk; exact s0)
  exact b2.grown g3 (by omega) (fun k hk => Nat.le_trans s0 (h2.lt k hk).1)

theorem nums_cons (r : ByteArray) (h : 0 < r.size) : nums r = (r[0].toNat : Int) :: (nums r).drop 1 := by
  have e : r.data.toList.drop 0 = r[0] :: r.data.toList.drop 1 := List.drop_eq_getElem_cons (l := r.data.toList) (i := 0) (by simpa using h)
  have e2 := congrArg (List.map fun c : UInt8 => (c.toNat : Int)) e
  rw [List.drop_zero, List.map_cons, List.map_drop] at e2
  exact e2
theorem nums_nil (r : ByteArray) (h : r.size = 0) : nums r = [] := by
  have := nums_len r
  rw [h] at this
  exact List.eq_nil_of_length_eq_zero this

structure IPost (T : List Int → List Int) (w : World) (e : Ending) (w' : World) : Prop where
  res : ∃ D, Dec D ∧ (T D).length ≤ 20 ∧ e = .returned (.string (strOfNums (T D)))
  bel : Below w.heap.size w w'
theorem itoa_pos' (u : Nat) (w : World) (h1 : (u : Int) ≤ 9223372036854775807) : Calls Try.prog 16 #[.int .i64 (u : Int)] w fun e w' => IPost (fun D => D) w e w' :=
  (itoa_pos u w h1).mono fun _ _ ⟨h, hb⟩ => ⟨h, hb⟩
theorem itoa_neg' (u : Nat) (w : World) (hu0 : 0 < u) (h1 : u ≤ 9223372036854775808) : Calls Try.prog 16 #[.int .i64 (-(u : Int))] w fun e w' => IPost (fun D => 45 :: D) w e w' :=
  (itoa_neg u w hu0 h1).mono fun _ _ ⟨⟨D, h1, h2, h3⟩, hb⟩ => ⟨⟨D, h1, by rw [List.length_cons]; omega, h3⟩, hb⟩
theorem neg_bytes {D : List Int} (h : Dec D) : ∀ c ∈ 45 :: D, 0 ≤ c ∧ c ≤ 255 := by
  intro c hc
  rcases List.mem_cons.1 hc with h' | h'
  · omega
  · have := h.dig c h'
    omega

set_option maxHeartbeats 400000 in
theorem bytes5_any (n : Int) (r : ByteArray) (w : World) (hr : r.size ≤ maxLen) :
    Calls Try.prog 13 #[.int .i64 n, .string r] w fun e w' => e = .returned (.bool (decide (r.size ≤ 1048576))) ∧ w = w' := by
  unfold maxLen at hr
  by_cases h : r.size ≤ 1048576
  · go_enter Try.func13, Try.ntmps13
    go_wp2
    go_ret
    exact ⟨by simp [h], rfl⟩
  · go_enter Try.func13, Try.ntmps13
    go_wp2
    go_ret
    exact ⟨by simp [h], rfl⟩

theorem texts_short (n : Int) (r : ByteArray) (w : World) (hr : r.size ≤ maxLen) (h : ¬ r.size ≤ 1048576) :
    Calls Try.prog 5 #[.int .i64 n, .string r] w fun e w' => e = .returned (.bool true) ∧ Below w.heap.size w w' := by
  have hd : decide (r.size ≤ 1048576) = false := by simp [h]
  go_enter Try.func5, Try.ntmps5
  go_wp2_with (go_at_call 13; refine (bytes5_any _ _ _ hr).mono ?_; rintro e w' ⟨rfl, rfl⟩; rw [hd])
  go_ret
  exact ⟨rfl, Below.refl _ _⟩

theorem size_step {wr w1 w2 : World} (g1 : wr.grownBy w1 none) (g2 : w1.grownBy w2 (some wr.heap.size)) : wr.heap.size ≤ w2.heap.size := Nat.le_trans g1.size g2.size

def B0 : ByteArray := ⟨#[116, 114, 117, 101]⟩
def B1 : ByteArray := ⟨#[102, 97, 108, 115, 101]⟩
def B2 : ByteArray := ⟨#[110, 117, 108, 108]⟩

set_option maxRecDepth 10000 in
set_option maxHeartbeats 1000000 in
theorem texts_long (n : Int) (r : ByteArray) (w : World) (hn1 : -9223372036854775808 ≤ n) (hn2 : n ≤ 9223372036854775807) (h : r.size ≤ 1048576) :
    Calls Try.prog 5 #[.int .i64 n, .string r] w fun e w' => e = .returned (.bool true) ∧ Below w.heap.size w w' := by
  have hr : r.size ≤ maxLen := by unfold maxLen; omega
  have hd : decide (r.size ≤ 1048576) = true := by simp [h]
  obtain ⟨i0, hi, hz0, hz1, hz2⟩ := info_parts Try.info5
  go_enter Try.func5, Try.ntmps5
  go_wp2_with (go_at_call 13; refine (bytes5_any _ _ _ hr).mono ?_; rintro e w' ⟨rfl, rfl⟩; rw [hd])
  go_loopw [5] (fun i wr => ∃ k : Nat, k ≤ 3 ∧ i = .int .i64 k ∧ Below w.heap.size w wr) (fun i _ => 3 - (intOf i).toNat)
  case atStart => exact ⟨0, by omega, rfl, Below.refl _ _⟩
  case round =>
    obtain ⟨k, hk, rfl, hbw⟩ := hrel
    rcases (by omega : k = 0 ∨ k = 1 ∨ k = 2 ∨ k = 3) with rfl | rfl | rfl | rfl
    · have sB : B0.size = 4 := rfl
      have HS : Hid (B0.size = 4) := sB
      clear sB
      go_wp2_with (first | (go_at_call 14; go_in) | (go_at_call 10; go_in) | (at_make; refine wpList_make_own _ rfl _ _ 22 rfl wr.heap.size 5 i0 (.int .u8 0) 1 Try.underlying22 hi hz0 hz1 _ _ _ (4 + r.size) rfl rfl (by omega) (by rw [hz2]; omega) (by unfold maxLen; omega) (Nat.le_refl _) ?_; intro w1 hown1 hgrow1) | (at_builtin; refine Lib.wpList_append_own_string _ rfl (.tmp 33) (.tmp 34) 22 9 rfl wr.heap.size 5 i0 Try.underlying22 Try.underlying9 hi hz0 hz1 hz2 _ _ _ rfl hown1 B0 rfl (by unfold maxLen; decide) (by decide) hgrow1.size ?_; intro v2 w2 hown2 hgrow2 hx2; clear hx2; have s2 := size_step hgrow1 hgrow2) | (at_builtin; refine Lib.wpList_append_own_string _ rfl (.tmp 36) (.tmp 37) 22 9 rfl wr.heap.size 5 i0 Try.underlying22 Try.underlying9 hi hz0 hz1 hz2 _ _ _ rfl hown2 r rfl (by unfold maxLen; have := HS.out; omega) (by have := HS.out; omega) s2 ?_; intro v3 w3 hown3 hgrow3 hx3; clear hx3; obtain ⟨g, cp, hv⟩ := shape2 hown3 (by have := HS.out; omega); subst hv; simp only [List.nil_append] at hown3; have b3 := q_below hbw hgrow1 hgrow2 hown2 hgrow3; have LQ := lit_q B0 r (lit_W0 (nums r)) wr.heap.size g cp _ w3 hown3 (by decide) (by have := HS.out; omega) 4 rfl; clear hown1 hown2 hown3 hgrow1 hgrow2 hgrow3) | (go_at_call 22; refine LQ.mono ?_; rintro e w4 ⟨rfl, hb4⟩))
      have b4 := b3.trans (hb4.mono b3.size)
      go_roundw
      case rel => exact ⟨1, by omega, by go_num, b4⟩
      case measure => simp [intOf]
    · have sB : B1.size = 5 := rfl
      have HS : Hid (B1.size = 5) := sB
      clear sB
      go_wp2_with (first | (go_at_call 14; go_in) | (go_at_call 10; go_in) | (at_make; refine wpList_make_own _ rfl _ _ 22 rfl wr.heap.size 5 i0 (.int .u8 0) 1 Try.underlying22 hi hz0 hz1 _ _ _ (5 + r.size) rfl rfl (by omega) (by rw [hz2]; omega) (by unfold maxLen; omega) (Nat.le_refl _) ?_; intro w1 hown1 hgrow1) | (at_builtin; refine Lib.wpList_append_own_string _ rfl (.tmp 33) (.tmp 34) 22 9 rfl wr.heap.size 5 i0 Try.underlying22 Try.underlying9 hi hz0 hz1 hz2 _ _ _ rfl hown1 B1 rfl (by unfold maxLen; decide) (by decide) hgrow1.size ?_; intro v2 w2 hown2 hgrow2 hx2; clear hx2; have s2 := size_step hgrow1 hgrow2) | (at_builtin; refine Lib.wpList_append_own_string _ rfl (.tmp 36) (.tmp 37) 22 9 rfl wr.heap.size 5 i0 Try.underlying22 Try.underlying9 hi hz0 hz1 hz2 _ _ _ rfl hown2 r rfl (by unfold maxLen; have := HS.out; omega) (by have := HS.out; omega) s2 ?_; intro v3 w3 hown3 hgrow3 hx3; clear hx3; obtain ⟨g, cp, hv⟩ := shape2 hown3 (by have := HS.out; omega); subst hv; simp only [List.nil_append] at hown3; have b3 := q_below hbw hgrow1 hgrow2 hown2 hgrow3; have LQ := lit_q B1 r (lit_W1 (nums r)) wr.heap.size g cp _ w3 hown3 (by decide) (by have := HS.out; omega) 5 rfl; clear hown1 hown2 hown3 hgrow1 hgrow2 hgrow3) | (go_at_call 22; refine LQ.mono ?_; rintro e w4 ⟨rfl, hb4⟩))
      have b4 := b3.trans (hb4.mono b3.size)
      go_roundw
      case rel => exact ⟨2, by omega, by go_num, b4⟩
      case measure => simp [intOf]
    · have sB : B2.size = 4 := rfl
      have HS : Hid (B2.size = 4) := sB
      clear sB
      go_wp2_with (first | (go_at_call 14; go_in) | (go_at_call 10; go_in) | (at_make; refine wpList_make_own _ rfl _ _ 22 rfl wr.heap.size 5 i0 (.int .u8 0) 1 Try.underlying22 hi hz0 hz1 _ _ _ (4 + r.size) rfl rfl (by omega) (by rw [hz2]; omega) (by unfold maxLen; omega) (Nat.le_refl _) ?_; intro w1 hown1 hgrow1) | (at_builtin; refine Lib.wpList_append_own_string _ rfl (.tmp 33) (.tmp 34) 22 9 rfl wr.heap.size 5 i0 Try.underlying22 Try.underlying9 hi hz0 hz1 hz2 _ _ _ rfl hown1 B2 rfl (by unfold maxLen; decide) (by decide) hgrow1.size ?_; intro v2 w2 hown2 hgrow2 hx2; clear hx2; have s2 := size_step hgrow1 hgrow2) | (at_builtin; refine Lib.wpList_append_own_string _ rfl (.tmp 36) (.tmp 37) 22 9 rfl wr.heap.size 5 i0 Try.underlying22 Try.underlying9 hi hz0 hz1 hz2 _ _ _ rfl hown2 r rfl (by unfold maxLen; have := HS.out; omega) (by have := HS.out; omega) s2 ?_; intro v3 w3 hown3 hgrow3 hx3; clear hx3; obtain ⟨g, cp, hv⟩ := shape2 hown3 (by have := HS.out; omega); subst hv; simp only [List.nil_append] at hown3; have b3 := q_below hbw hgrow1 hgrow2 hown2 hgrow3; have LQ := lit_q B2 r (lit_W2 (nums r)) wr.heap.size g cp _ w3 hown3 (by decide) (by have := HS.out; omega) 4 rfl; clear hown1 hown2 hown3 hgrow1 hgrow2 hgrow3) | (go_at_call 22; refine LQ.mono ?_; rintro e w4 ⟨rfl, hb4⟩))
      have b4 := b3.trans (hb4.mono b3.size)
      go_roundw
      case rel => exact ⟨3, by omega, by go_num, b4⟩
      case measure => simp [intOf]
    · go_upto_region 15 with fail
      go_cut [74] (fun v wc => wr = wc ∧ ∃ b : Bool, v = .bool b ∧ (b = false → stop (nums r)))
      case first =>
        by_cases h0 : 0 < r.size
        · have h0' : (0 : Int) < (r.size : Int) := by omega
          have HR : Hid (nums r = (r[0].toNat : Int) :: (nums r).drop 1) := nums_cons r h0
          by_cases k1 : 48 ≤ (r[0].toNat : Int)
          · by_cases k2 : (r[0].toNat : Int) ≤ 57
            · go_wp2_with (go_at_call 15; go_in)
              go_meet
              case rel => exact ⟨rfl, true, rfl, by simp⟩
            · have HK : Hid (57 < (r[0].toNat : Int)) := by show 57 < (r[0].toNat : Int); omega
              have b46 : ((r[0].toNat : Int) == 46) = false := beq_false_of_ne (by omega)
              by_cases q101 : (r[0].toNat : Int) = 101
              · have b101 : ((r[0].toNat : Int) == 101) = true := by simp [q101]
                clear q101
                go_wp2_with (go_at_call 15; go_in)
                go_meet
                case rel => exact ⟨rfl, true, rfl, by simp⟩
              · have b101 : ((r[0].toNat : Int) == 101) = false := by simp [q101]
                by_cases q69 : (r[0].toNat : Int) = 69
                · have b69 : ((r[0].toNat : Int) == 69) = true := by simp [q69]
                  clear q69 q101
                  go_wp2_with (go_at_call 15; go_in)
                  go_meet
                  case rel => exact ⟨rfl, true, rfl, by simp⟩
                · have b69 : ((r[0].toNat : Int) == 69) = false := by simp [q69]
                  have HS : Hid (stop ((r[0].toNat : Int) :: (nums r).drop 1)) := stop_cons (by have := HK.out; omega) (by have := HK.out; omega) q101 q69
                  clear q69 q101
                  go_wp2_with (go_at_call 15; go_in)
                  go_meet
                  case rel => exact ⟨rfl, false, rfl, fun _ => by rw [HR.out]; exact HS.out⟩
          · have b101 : ((r[0].toNat : Int) == 101) = false := beq_false_of_ne (by omega)
            have b69 : ((r[0].toNat : Int) == 69) = false := beq_false_of_ne (by omega)
            by_cases q46 : (r[0].toNat : Int) = 46
            · have b46 : ((r[0].toNat : Int) == 46) = true := by simp [q46]
              have k3 : (r[0].toNat : Int) < 48 := by omega
              clear q46
              go_wp2_with (go_at_call 15; go_in)
              go_meet
              case rel => exact ⟨rfl, true, rfl, by simp⟩
            · have b46 : ((r[0].toNat : Int) == 46) = false := by simp [q46]
              have HS : Hid (stop ((r[0].toNat : Int) :: (nums r).drop 1)) := stop_cons (by omega) q46 (by omega) (by omega)
              clear q46
              go_wp2_with (go_at_call 15; go_in)
              go_meet
              case rel => exact ⟨rfl, false, rfl, fun _ => by rw [HR.out]; exact HS.out⟩
        · have h0' : ¬ (0 : Int) < (r.size : Int) := by omega
          have HR : Hid (nums r = []) := nums_nil r (by omega)
          go_wp2_with (go_at_call 15; go_in)
          go_meet
          case rel => exact ⟨rfl, false, rfl, fun _ => by rw [HR.out]; exact stop_nil⟩
      case rest =>
        obtain ⟨rfl, b, rfl, hstop⟩ := hcut
        cases b with
        | true =>
          go_wp2_with fail
          go_ret
          exact ⟨rfl, hbw⟩
        | false =>
          have HST : Hid (stop (nums r)) := hstop rfl
          clear hstop
          by_cases hneg : 0 ≤ n
          · obtain ⟨u, rfl⟩ : ∃ u : Nat, n = (u : Int) := ⟨n.toNat, by omega⟩
            go_wp2_with (go_at_call 16; refine (itoa_pos' u _ hn2).mono ?_)
            rintro e w5 hpost
            obtain ⟨⟨D, hD, hDl, rfl⟩, hb5⟩ := hpost
            have hsz : (strOfNums D).size = D.length := strOfNums_size D
            have LIT : lit (nums (strOfNums D) ++ nums r) = (D.length, true) := by rw [nums_str D (fun c hc => by have := hD.dig c hc; omega)]; exact lit_pos hD HST.out
            have hne : D.length ≠ 0 := fun e => hD.ne (List.eq_nil_of_length_eq_zero e)
            have b5 := hbw.trans (hb5.mono hbw.size)
            obtain ⟨T, hT⟩ : ∃ T, T = strOfNums D := ⟨_, rfl⟩
            rw [← hT] at LIT hsz ⊢
            rw [← hsz] at LIT
            clear hT hbw hb5
            have hT0 : 0 < T.size := by omega
            have hT1 : T.size ≤ 20 := by omega
            have LH : Hid (lit (nums T ++ nums r) = (T.size, true)) := LIT
            clear LIT hsz
            go_wp2_with (first | (go_at_call 10; go_in) | (at_make; refine wpList_make_own _ rfl _ _ 22 rfl w5.heap.size 5 i0 (.int .u8 0) 1 Try.underlying22 hi hz0 hz1 _ _ _ (T.size + r.size) rfl rfl (by omega) (by rw [hz2]; omega) (by unfold maxLen; omega) (Nat.le_refl _) ?_; intro w1 hown1 hgrow1) | (at_builtin; refine Lib.wpList_append_own_string _ rfl (.tmp 83) (.tmp 84) 22 9 rfl w5.heap.size 5 i0 Try.underlying22 Try.underlying9 hi hz0 hz1 hz2 _ _ _ rfl hown1 T rfl (by unfold maxLen; omega) (by omega) hgrow1.size ?_; intro v2 w2 hown2 hgrow2 hx2; clear hx2; have s2 := size_step hgrow1 hgrow2) | (at_builtin; refine Lib.wpList_append_own_string _ rfl (.tmp 86) (.tmp 87) 22 9 rfl w5.heap.size 5 i0 Try.underlying22 Try.underlying9 hi hz0 hz1 hz2 _ _ _ rfl hown2 r rfl (by unfold maxLen; omega) (by omega) s2 ?_; intro v3 w3 hown3 hgrow3 hx3; clear hx3; obtain ⟨g, cp, hv⟩ := shape2 hown3 (by omega); subst hv; simp only [List.nil_append, Nat.zero_add] at hown3; have b3 := q_below b5 hgrow1 hgrow2 hown2 hgrow3; have LQ := lit_q T r LH.out w5.heap.size g cp _ w3 hown3 hT0 (by omega) _ rfl; clear hown1 hown2 hown3 hgrow1 hgrow2 hgrow3) | (go_at_call 22; refine LQ.mono ?_; rintro e w4 ⟨rfl, hb4⟩))
            go_ret
            exact ⟨rfl, b3.trans (hb4.mono b3.size)⟩
          · obtain ⟨u, hu⟩ : ∃ u : Nat, n = -(u : Int) := ⟨(-n).toNat, by omega⟩
            subst hu
            have hu0 : 0 < u := by omega
            have hu1 : u ≤ 9223372036854775808 := by omega
            go_wp2_with (go_at_call 16; refine (itoa_neg' u _ hu0 hu1).mono ?_)
            rintro e w5 hpost
            obtain ⟨⟨D, hD, hDl, rfl⟩, hb5⟩ := hpost
            have hsz : (strOfNums (45 :: D)).size = (45 :: D).length := strOfNums_size _
            have LIT : lit (nums (strOfNums (45 :: D)) ++ nums r) = ((45 :: D).length, true) := by
              rw [nums_str (45 :: D) (neg_bytes hD)]; exact lit_neg hD HST.out
            have hne : (45 :: D).length ≤ 20 := hDl
            have hne2 : (45 :: D).length ≠ 0 := by rw [List.length_cons]; omega
            have b5 := hbw.trans (hb5.mono hbw.size)
            obtain ⟨T, hT⟩ : ∃ T, T = strOfNums (45 :: D) := ⟨_, rfl⟩
            rw [← hT] at LIT hsz ⊢
            rw [← hsz] at LIT
            clear hT hbw hb5
            have hT0 : 0 < T.size := by omega
            have hT1 : T.size ≤ 20 := by omega
            have LH : Hid (lit (nums T ++ nums r) = (T.size, true)) := LIT
            clear LIT hsz
            go_wp2_with (first | (go_at_call 10; go_in) | (at_make; refine wpList_make_own _ rfl _ _ 22 rfl w5.heap.size 5 i0 (.int .u8 0) 1 Try.underlying22 hi hz0 hz1 _ _ _ (T.size + r.size) rfl rfl (by omega) (by rw [hz2]; omega) (by unfold maxLen; omega) (Nat.le_refl _) ?_; intro w1 hown1 hgrow1) | (at_builtin; refine Lib.wpList_append_own_string _ rfl (.tmp 83) (.tmp 84) 22 9 rfl w5.heap.size 5 i0 Try.underlying22 Try.underlying9 hi hz0 hz1 hz2 _ _ _ rfl hown1 T rfl (by unfold maxLen; omega) (by omega) hgrow1.size ?_; intro v2 w2 hown2 hgrow2 hx2; clear hx2; have s2 := size_step hgrow1 hgrow2) | (at_builtin; refine Lib.wpList_append_own_string _ rfl (.tmp 86) (.tmp 87) 22 9 rfl w5.heap.size 5 i0 Try.underlying22 Try.underlying9 hi hz0 hz1 hz2 _ _ _ rfl hown2 r rfl (by unfold maxLen; omega) (by omega) s2 ?_; intro v3 w3 hown3 hgrow3 hx3; clear hx3; obtain ⟨g, cp, hv⟩ := shape2 hown3 (by omega); subst hv; simp only [List.nil_append, Nat.zero_add] at hown3; have b3 := q_below b5 hgrow1 hgrow2 hown2 hgrow3; have LQ := lit_q T r LH.out w5.heap.size g cp _ w3 hown3 hT0 (by omega) _ rfl; clear hown1 hown2 hown3 hgrow1 hgrow2 hgrow3) | (go_at_call 22; refine LQ.mono ?_; rintro e w4 ⟨rfl, hb4⟩))
            go_ret
            exact ⟨rfl, b3.trans (hb4.mono b3.size)⟩

end Go.Proofs.Qxb6602755a
