/-
  THE WALKS of sfParser.at and sfParser.string.
-/
import Derived.Test.Qxb6602755aProg
import Derived.Test.Qxb6602755aShelf
import Derived.Test.Qxb6602755aPlainStr
import Derived.WalkKit
import Derived.WalkSpells
import Derived.WalkLawsBesides
import Derived.Deep.QuietTactic
import Derived.BigQuiet
import Derived.Deep.DeepCutAuto
namespace Go.Proofs.Qxb6602755a
open Go.RowKit

set_option maxHeartbeats 400000 in
theorem at_in (P : Nat) (s : ByteArray) (k : Nat) (c : Int) (w : World) (hk : k < s.size) (h0 : w.cell? ⟨P, 0, none⟩ = some (.string s)) (h1 : w.cell? ⟨P, 1, none⟩ = some (.int .i64 k)) :
    Calls Try.prog 30 #[.pointer (some ⟨P, 0, none⟩), .int .u8 c] w fun e w' => e = .returned (.bool ((s[k].toNat : Int) == c)) ∧ ∃ n, w' = w.drewN n := by
  have hlt : (k : Int) < (s.size : Int) := by omega
  have hd : decide ((k : Int) < (s.size : Int)) = true := by simpa using hlt
  go_enter Try.func30, Try.ntmps30
  go_wp2
  go_quiet (fail)
  go_wp2
  go_ret
  exact ⟨rfl, _, rfl⟩

set_option maxHeartbeats 400000 in
theorem at_past (P : Nat) (s : ByteArray) (k : Nat) (c : Int) (w : World) (hk : s.size ≤ k) (h0 : w.cell? ⟨P, 0, none⟩ = some (.string s)) (h1 : w.cell? ⟨P, 1, none⟩ = some (.int .i64 k)) :
    Calls Try.prog 30 #[.pointer (some ⟨P, 0, none⟩), .int .u8 c] w fun e w' => e = .returned (.bool false) ∧ ∃ n, w' = w.drewN n := by
  have hd : decide (k < s.size) = false := by simp; omega
  go_enter Try.func30, Try.ntmps30
  go_wp2
  go_quiet (fail)
  go_wp2
  go_ret
  exact ⟨rfl, _, rfl⟩

/-- WHERE THE CALL STANDS: the parser in block P; the zero item in block B, the builder in block B + 1; below P nothing has turned. -/
structure PS (w : World) (P B : Nat) (s : ByteArray) (k : Int) (acc : List UInt8) (wr : World) : Prop where
  lt : P < B
  ps : wr.heap[P]? = some (.cells #[.string s, .int .i64 k] 43 (0, 0))
  rs : wr.heap[B]? = some (.cells #[.int .u8 0, .string ⟨#[]⟩, .int .i64 0, .slice none 0 0, .bool false] 46 (0, 0))
  bd : Lib.IsBuilder 54 5 (B + 1) (B + 1) (Lib.byteCells acc) wr
  below : Below P w wr

theorem heap_lt' {w : World} {g : Nat} {o : Obj} (h : w.heap[g]? = some o) : g < w.heap.size := (Array.getElem?_eq_some_iff.1 h).1

theorem heap_set (w : World) (P : Nat) (s : ByteArray) (k k' : Int) (h : w.heap[P]? = some (.cells #[.string s, .int .i64 k] 43 (0, 0))) :
    (w.setCell ⟨P, 1, none⟩ (.int .i64 k')).heap[P]? = some (.cells #[.string s, .int .i64 k'] 43 (0, 0)) := by
  simp [World.setCell, Array.getElem?_modify, h]

theorem heap_new (w : World) (o : Obj) : (w.alloc o).heap[w.heap.size]? = some o := by
  show (w.heap.push o)[w.heap.size]? = _
  simp

theorem PS.start {w : World} {P : Nat} {s : ByteArray} {k : Int} (k' : Int) (h : w.heap[P]? = some (.cells #[.string s, .int .i64 k] 43 (0, 0))) :
    PS w P w.heap.size s k' [] (((w.setCell ⟨P, 1, none⟩ (.int .i64 k')).alloc (.cells #[.int .u8 0, .string ⟨#[]⟩, .int .i64 0, .slice none 0 0, .bool false] 46)).alloc (.cells #[.pointer none, .slice none 0 0] 54)) where
  lt := heap_lt' h
  ps := by
    have hl := heap_lt' h
    have hz : (w.setCell ⟨P, 1, none⟩ (.int .i64 k')).heap.size = w.heap.size := by simp [World.setCell]
    rw [Below.heap_alloc _ _ _ (by simp; omega), Below.heap_alloc _ _ _ (by omega)]
    exact heap_set w P s k k' h
  rs := by
    have hz : (w.setCell ⟨P, 1, none⟩ (.int .i64 k')).heap.size = w.heap.size := by simp [World.setCell]
    rw [Below.heap_alloc _ _ _ (by simp)]
    rw [← hz]
    exact heap_new _ _
  bd := by
    refine .inl ⟨Nat.le_refl _, .slice none 0 0, ?_, World.ownsRow_nil _ _ _ _, by simp [Value.ownBlock]⟩
    have hz : ((w.setCell ⟨P, 1, none⟩ (.int .i64 k')).alloc (.cells #[.int .u8 0, .string ⟨#[]⟩, .int .i64 0, .slice none 0 0, .bool false] 46)).heap.size = w.heap.size + 1 := by simp [World.setCell]
    rw [← hz]
    exact heap_new _ _
  below := by
    have hl := heap_lt' h
    exact (((Below.refl P w).setCell (p := ⟨P, 1, none⟩) (Nat.le_refl _) _).alloc (by simp [World.setCell]; omega) _).alloc (by simp [World.setCell]; omega) _

theorem PS.drew {w wr : World} {P B : Nat} {s : ByteArray} {k : Int} {acc : List UInt8} (h : PS w P B s k acc wr) (n : Nat) : PS w P B s k acc (wr.drewN n) where
  lt := h.lt
  ps := h.ps
  rs := h.rs
  bd := h.bd
  below := below_drewN h.below n

theorem builder_set {w : World} {B P : Nat} {q : Value} {bs : List Value} (h : Lib.BuilderAt 54 5 (B + 1) (B + 1) q bs w) (hP : P < B) (v : Value) (j : Nat) : Lib.BuilderAt 54 5 (B + 1) (B + 1) q bs (w.setCell ⟨P, j, none⟩ v) := by
  obtain ⟨h1, x, h2, h3, h4⟩ := h
  refine ⟨h1, x, ?_, ?_, h4⟩
  · rw [Below.heap_setCell _ _ _ _ (by show B + 1 ≠ P; omega)]; exact h2
  · exact ownsRow_setCell_below h3 (by show P < B + 1; omega) v

theorem PS.setPos {w wr : World} {P B : Nat} {s : ByteArray} {k : Int} {acc : List UInt8} (h : PS w P B s k acc wr) (k' : Int) : PS w P B s k' acc (wr.setCell ⟨P, 1, none⟩ (.int .i64 k')) where
  lt := h.lt
  ps := heap_set wr P s k k' h.ps
  rs := by rw [Below.heap_setCell _ _ _ _ (by have := h.lt; show B ≠ P; omega)]; exact h.rs
  bd := by
    rcases h.bd with b | b
    · exact .inl (builder_set b h.lt _ _)
    · exact .inr (builder_set b h.lt _ _)
  below := h.below.setCell (Nat.le_refl _) _

theorem PS.wrote {w wr w' : World} {P B : Nat} {s : ByteArray} {k : Int} {acc : List UInt8} (h : PS w P B s k acc wr) {c : UInt8} (hb : Lib.BuilderAt 54 5 (B + 1) (B + 1) (.pointer (some ⟨B + 1, 0, none⟩)) (Lib.byteCells acc ++ [.int .u8 (c.toNat : Int)]) w') (hbel : Below (B + 1) wr w') :
    PS w P B s k (acc ++ [c]) w' where
  lt := h.lt
  ps := by rw [hbel.block P (by have := h.lt; omega)]; exact h.ps
  rs := by rw [hbel.block B (by omega)]; exact h.rs
  bd := by
    refine .inr ?_
    have e : Lib.byteCells (acc ++ [c]) = Lib.byteCells acc ++ [.int .u8 (c.toNat : Int)] := by simp [Lib.byteCells]
    rw [e]; exact hb
  below := h.below.trans (hbel.mono (by have := h.lt; omega))

theorem PS.c0 {w wr : World} {P B : Nat} {s : ByteArray} {k : Int} {acc : List UInt8} (h : PS w P B s k acc wr) : wr.cell? ⟨P, 0, none⟩ = some (.string s) := by rw [Lib.cell_of_heap h.ps]; rfl
theorem PS.c1 {w wr : World} {P B : Nat} {s : ByteArray} {k : Int} {acc : List UInt8} (h : PS w P B s k acc wr) : wr.cell? ⟨P, 1, none⟩ = some (.int .i64 k) := by rw [Lib.cell_of_heap h.ps]; rfl
theorem PS.f1 {w wr : World} {P B : Nat} {s : ByteArray} {k : Int} {acc : List UInt8} (h : PS w P B s k acc wr) : wr.frozen? ⟨P, 1, none⟩ = false := Lib.frozen_of_heap h.ps 1
theorem PS.bsize {w wr : World} {P B : Nat} {s : ByteArray} {k : Int} {acc : List UInt8} (h : PS w P B s k acc wr) : B + 1 < wr.heap.size := by
  rcases h.bd with b | b <;> exact b.lt

/-- The zero item's cells, for a store into them. -/
structure RS (B : Nat) (wr : World) : Prop where
  r0 : wr.cell? ⟨B, 0, none⟩ = some (.int .u8 0)
  r1 : wr.cell? ⟨B, 1, none⟩ = some (.string ⟨#[]⟩)
  r2 : wr.cell? ⟨B, 2, none⟩ = some (.int .i64 0)
  r3 : wr.cell? ⟨B, 3, none⟩ = some (.slice none 0 0)
  r4 : wr.cell? ⟨B, 4, none⟩ = some (.bool false)
  f0 : wr.frozen? ⟨B, 0, none⟩ = false
  f1 : wr.frozen? ⟨B, 1, none⟩ = false
  f2 : wr.frozen? ⟨B, 2, none⟩ = false
  f3 : wr.frozen? ⟨B, 3, none⟩ = false
  f4 : wr.frozen? ⟨B, 4, none⟩ = false

theorem rs_of {B : Nat} {wr : World} (h : wr.heap[B]? = some (.cells #[.int .u8 0, .string ⟨#[]⟩, .int .i64 0, .slice none 0 0, .bool false] 46 (0, 0))) : RS B wr :=
  ⟨by rw [Lib.cell_of_heap h]; rfl, by rw [Lib.cell_of_heap h]; rfl, by rw [Lib.cell_of_heap h]; rfl, by rw [Lib.cell_of_heap h]; rfl, by rw [Lib.cell_of_heap h]; rfl,
   Lib.frozen_of_heap h 0, Lib.frozen_of_heap h 1, Lib.frozen_of_heap h 2, Lib.frozen_of_heap h 3, Lib.frozen_of_heap h 4⟩

/-- Behind a call that turns nothing below B + 1. -/
theorem PS.after {w wr w2 : World} {P B : Nat} {s : ByteArray} {k : Int} {acc : List UInt8} {n : Nat} {k' : Int} (h : PS w P B s k acc wr) (hb : Below (B + 1) ((wr.drewN n).setCell ⟨P, 1, none⟩ (.int .i64 k')) w2) :
    RS B w2 ∧ w2.cell? ⟨P, 1, none⟩ = some (.int .i64 k') ∧ Below P w w2 := by
  have h2 := (h.drew n).setPos k'
  have hl := h.lt
  refine ⟨rs_of (by rw [hb.block B (by omega)]; exact h2.rs), ?_, h2.below.trans (hb.mono (by omega))⟩
  rw [hb.cell (by show P < B + 1; omega)]; exact h2.c1

/-- Five stores into block B. -/
theorem fin5 {w W : World} {P B : Nat} {x v0 v1 v2 v3 v4 : Value} (hlt : P < B) (hb : Below P w W) (hc : W.cell? ⟨P, 1, none⟩ = some x) :
    (((((W.setCell ⟨B, 0, none⟩ v0).setCell ⟨B, 1, none⟩ v1).setCell ⟨B, 2, none⟩ v2).setCell ⟨B, 3, none⟩ v3).setCell ⟨B, 4, none⟩ v4).cell? ⟨P, 1, none⟩ = some x ∧
    Below P w (((((W.setCell ⟨B, 0, none⟩ v0).setCell ⟨B, 1, none⟩ v1).setCell ⟨B, 2, none⟩ v2).setCell ⟨B, 3, none⟩ v3).setCell ⟨B, 4, none⟩ v4) := by
  have h : Below B W (((((W.setCell ⟨B, 0, none⟩ v0).setCell ⟨B, 1, none⟩ v1).setCell ⟨B, 2, none⟩ v2).setCell ⟨B, 3, none⟩ v3).setCell ⟨B, 4, none⟩ v4) :=
    (((((Below.refl B W).setCell (p := ⟨B, 0, none⟩) (Nat.le_refl _) _).setCell (p := ⟨B, 1, none⟩) (Nat.le_refl _) _).setCell (p := ⟨B, 2, none⟩) (Nat.le_refl _) _).setCell (p := ⟨B, 3, none⟩) (Nat.le_refl _) _).setCell (p := ⟨B, 4, none⟩) (Nat.le_refl _) _
  exact ⟨(h.cell hlt).trans hc, hb.trans (h.mono (Nat.le_of_lt hlt))⟩

theorem ret_item {k k' : Int} {t t' : ByteArray} {o o' : Bool} (h1 : k = k') (h2 : t = t') (h3 : o = o') :
    Ending.returned (.tuple #[.agg #[.int .u8 k, .string t, .int .i64 0, .slice none 0 0, .bool false], .bool o]) = .returned (.tuple #[.agg #[.int .u8 k', .string t', .int .i64 0, .slice none 0 0, .bool false], .bool o']) := by
  rw [h1, h2, h3]

/-- The parser's position, read off the world: for the loop's measure. -/
def posOf (P : Nat) (w : World) : Nat := match w.cell? ⟨P, 1, none⟩ with | some (.int _ q) => q.toNat | _ => 0
theorem PS.pos {w wr : World} {P B : Nat} {s : ByteArray} {k : Nat} {acc : List UInt8} (h : PS w P B s k acc wr) : posOf P wr = k := by unfold posOf; rw [h.c1]; simp

theorem next_ps {w wr : World} {P B : Nat} {s : ByteArray} {k : Nat} {acc : List UInt8} (h : PS w P B s k acc wr) : PS w P B s ((k + 1 : Nat) : Int) acc (wr.setCell ⟨P, 1, none⟩ (.int .i64 ((k : Int) + 1))) := by
  have e : ((k + 1 : Nat) : Int) = (k : Int) + 1 := by omega
  rw [e]
  exact h.setPos _

theorem next_at {w wr : World} {P B : Nat} {s : ByteArray} {k j : Nat} {acc : List UInt8} (h : PS w P B s k acc wr) (hj : j = k + 1) : PS w P B s (j : Int) acc (wr.setCell ⟨P, 1, none⟩ (.int .i64 ((k : Int) + 1))) := by
  subst hj
  exact next_ps h

theorem at_ps {w wr : World} {P B : Nat} {s : ByteArray} {k : Nat} {acc : List UInt8} (h : PS w P B s k acc wr) (c : Int) (hk : k < s.size) :
    Calls Try.prog 30 #[.pointer (some ⟨P, 0, none⟩), .int .u8 c] wr fun e w' => e = .returned (.bool ((s[k].toNat : Int) == c)) ∧ PS w P B s k acc w' :=
  (at_in P s k c wr hk h.c0 h.c1).mono fun _ _ ⟨he, n, hn⟩ => ⟨he, by rw [hn]; exact h.drew n⟩

theorem at_ps_no {w wr : World} {P B : Nat} {s : ByteArray} {k : Nat} {acc : List UInt8} (h : PS w P B s k acc wr) (c : Int) (hk : s.size ≤ k) :
    Calls Try.prog 30 #[.pointer (some ⟨P, 0, none⟩), .int .u8 c] wr fun e w' => e = .returned (.bool false) ∧ PS w P B s k acc w' :=
  (at_past P s k c wr hk h.c0 h.c1).mono fun _ _ ⟨he, n, hn⟩ => ⟨he, by rw [hn]; exact h.drew n⟩

set_option maxRecDepth 10000 in
set_option maxHeartbeats 2000000 in
theorem string_any (P : Nat) (s : ByteArray) (k0 : Nat) (w : World) (hs : s.size ≤ 4194304) (hk0 : k0 ≤ 9223372036854775807) (hP : w.heap[P]? = some (.cells #[.string s, .int .i64 ((k0 : Int) - 1)] 43 (0, 0))) :
    Calls Try.prog 26 #[.pointer (some ⟨P, 0, none⟩)] w fun e w' => e = .returned (.tuple #[.agg #[.int .u8 (strK s k0), .string (strT s k0), .int .i64 0, .slice none 0 0, .bool false], .bool (strO s k0)]) ∧
      w'.cell? ⟨P, 1, none⟩ = some (.int .i64 (strE s k0)) ∧ Below P w w' := by
  have c0 : w.cell? ⟨P, 0, none⟩ = some (.string s) := by rw [Lib.cell_of_heap hP]; rfl
  have c1 : w.cell? ⟨P, 1, none⟩ = some (.int .i64 ((k0 : Int) - 1)) := by rw [Lib.cell_of_heap hP]; rfl
  have f1 : w.frozen? ⟨P, 1, none⟩ = false := Lib.frozen_of_heap hP 1
  have HP : Hid (w.heap[P]? = some (.cells #[.string s, .int .i64 ((k0 : Int) - 1)] 43 (0, 0))) := hP
  have hPl : P < w.heap.size := (Array.getElem?_eq_some_iff.1 hP).1
  clear hP
  go_enter Try.func26, Try.ntmps26
  go_wp2
  go_loopw [5] (fun _ wr => ∃ (k : Nat) (acc : List UInt8), acc.length ≤ k ∧ k ≤ 9223372036854775807 ∧ PS w P w.heap.size s k acc wr ∧ SAt s k0 false acc k) (fun _ wr => s.size - posOf P wr)
  case atStart => exact ⟨k0, [], by simp, hk0, PS.start _ HP.out, sat_start s k0⟩
  case round =>
    obtain ⟨k, acc, hacc, hk, hps, hsa⟩ := hrel
    clear c0 c1 f1 HP
    have c0 := hps.c0
    have c1 := hps.c1
    have f1 := hps.f1
    have HS : Hid (SAt s k0 false acc k) := hsa
    have HPS : Hid (PS w P w.heap.size s k acc wr) := hps
    clear hsa hps
    obtain ⟨r0, r1, r2, r3, r4, g0, g1, g2, g3, g4⟩ := rs_of HPS.out.rs
    by_cases hlt : k < s.size
    · have hlt' : (k : Int) < (s.size : Int) := by omega
      by_cases h34 : (s[k].toNat : Int) = 34
      · have b34 : ((s[k].toNat : Int) == 34) = true := by simp [h34]
        have R := str_yes (sat_quote HS.out hlt h34)
        have HR : Hid (strK s k0 = 2 ∧ strT s k0 = ⟨acc.toArray⟩ ∧ strE s k0 = k + 1 ∧ strO s k0 = true) := R
        clear h34 R
        go_wp2
        go_quiet (fail)
        go_wp2
        go_quiet (fail)
        go_wp2_with fail
        refine (Try.Builder_String_any (w.heap.size + 1) (w.heap.size + 1) acc _ ((HPS.out.drew _).setPos _).bd (Nat.le_of_lt ((HPS.out.drew _).setPos _).bsize)).mono ?_
        rintro e w2 ⟨rfl, hb2⟩
        obtain ⟨⟨r0, r1, r2, r3, r4, g0, g1, g2, g3, g4⟩, d1, hbl⟩ := HPS.out.after hb2
        go_wp2_with fail
        refine bodyPost_ret (v := .tuple #[.agg #[.int .u8 2, .string ⟨acc.toArray⟩, .int .i64 0, .slice none 0 0, .bool false], .bool true]) (by simp [results, Try.results26, go_sem, r0, r1, r2, r3, r4]) rfl ⟨ret_item HR.out.1.symm HR.out.2.1.symm HR.out.2.2.2.symm, ?_⟩
        rw [HR.out.2.2.1]
        exact fin5 HPS.out.lt hbl (by rw [d1]; go_num)
      · have b34 : ((s[k].toNat : Int) == 34) = false := by simp [h34]
        by_cases h92 : (s[k].toNat : Int) = 92
        · have b92 : ((s[k].toNat : Int) == 92) = true := by simp [h92]
          have HS1 : Hid (SAt s k0 true acc (k + 1)) := sat_back HS.out hlt h92
          clear h34 h92 HS
          go_wp2
          go_quiet (fail)
          go_wp2
          go_quiet (fail)
          go_wp2_with fail
          obtain ⟨j, HJ⟩ : ∃ j : Nat, Hid (j = k + 1) := ⟨_, rfl⟩
          have hkj : k < j := by have := HJ.out; omega
          have hj1 : j ≤ s.size := by have := HJ.out; omega
          rw [← HJ.out] at HS1
          by_cases hlt2 : j < s.size
          · by_cases k34 : (s[j].toNat : Int) = 34
            · have q34 : ((s[j].toNat : Int) == 34) = true := by simp [k34]
              have HS2 : Hid (SAt s k0 false (acc ++ [s[j]]) (j + 1)) := sat_esc HS1.out hlt2 (.inl k34)
              clear k34 HS1
              clear c0 c1 f1 r0 r1 r2 r3 r4 g0 g1 g2 g3 g4
              refine (at_ps (next_at (HPS.out.drew _) HJ.out) _ hlt2).mono ?_
              rintro e w2 ⟨rfl, hp2⟩
              rw [q34]
              have c0 := hp2.c0
              have c1 : _ = some (Value.int .i64 (j : Int)) := hp2.c1
              have hlt2' : (j : Int) < (s.size : Int) := by omega
              go_wp2_with fail
              go_quiet (fail)
              go_wp2_with fail
              refine (Try.Builder_WriteByte (w.heap.size + 1) (w.heap.size + 1) (Lib.byteCells acc) _ _ (hp2.drew _).bd (by rw [Lib.byteCells_length]; omega) (Nat.le_of_lt (hp2.drew _).bsize)).mono ?_
              rintro e w4 ⟨rfl, hb4, hbel⟩
              have hp4 := (hp2.drew _).wrote hb4 hbel
              clear c0 c1 hb4 hbel
              have c0 := hp4.c0
              have c1 := hp4.c1
              have f1 := hp4.f1
              have HP4 : Hid (PS w P w.heap.size s (j : Int) (acc ++ [s[j]]) w4) := hp4
              clear hp4
              go_wp2_with fail
              have HN := next_ps HP4.out
              go_roundw
              case rel => exact ⟨j + 1, acc ++ [s[j]], by simp; omega, by omega, HN, HS2.out⟩
              case measure => rw [HN.pos, HPS.out.pos]; omega
            · have q34 : ((s[j].toNat : Int) == 34) = false := by simp [k34]
              by_cases k92 : (s[j].toNat : Int) = 92
              · have q92 : ((s[j].toNat : Int) == 92) = true := by simp [k92]
                have HS2 : Hid (SAt s k0 false (acc ++ [s[j]]) (j + 1)) := sat_esc HS1.out hlt2 (.inr k92)
                clear k34 k92 HS1
                clear c0 c1 f1 r0 r1 r2 r3 r4 g0 g1 g2 g3 g4
                refine (at_ps (next_at (HPS.out.drew _) HJ.out) _ hlt2).mono ?_
                rintro e w2 ⟨rfl, hp2⟩
                rw [q34]
                go_wp2_with fail
                refine (at_ps hp2 _ hlt2).mono ?_
                rintro e w3 ⟨rfl, hp3⟩
                rw [q92]
                have c0 := hp3.c0
                have c1 : _ = some (Value.int .i64 (j : Int)) := hp3.c1
                have hlt2' : (j : Int) < (s.size : Int) := by omega
                go_wp2_with fail
                go_quiet (fail)
                go_wp2_with fail
                refine (Try.Builder_WriteByte (w.heap.size + 1) (w.heap.size + 1) (Lib.byteCells acc) _ _ (hp3.drew _).bd (by rw [Lib.byteCells_length]; omega) (Nat.le_of_lt (hp3.drew _).bsize)).mono ?_
                rintro e w4 ⟨rfl, hb4, hbel⟩
                have hp4 := (hp3.drew _).wrote hb4 hbel
                clear c0 c1 hb4 hbel
                have c0 := hp4.c0
                have c1 := hp4.c1
                have f1 := hp4.f1
                have HP4 : Hid (PS w P w.heap.size s (j : Int) (acc ++ [s[j]]) w4) := hp4
                clear hp4
                go_wp2_with fail
                have HN := next_ps HP4.out
                go_roundw
                case rel => exact ⟨j + 1, acc ++ [s[j]], by simp; omega, by omega, HN, HS2.out⟩
                case measure => rw [HN.pos, HPS.out.pos]; omega
              · have q92 : ((s[j].toNat : Int) == 92) = false := by simp [k92]
                have HR : Hid (strK s k0 = 0 ∧ strT s k0 = ⟨#[]⟩ ∧ strE s k0 = j ∧ strO s k0 = false) := str_no (sat_esc_bad HS1.out hlt2 k34 k92)
                clear k34 k92 HS1
                clear c0 c1 f1 r0 r1 r2 r3 r4 g0 g1 g2 g3 g4
                refine (at_ps (next_at (HPS.out.drew _) HJ.out) _ hlt2).mono ?_
                rintro e w2 ⟨rfl, hp2⟩
                rw [q34]
                go_wp2_with fail
                refine (at_ps hp2 _ hlt2).mono ?_
                rintro e w3 ⟨rfl, hp3⟩
                rw [q92]
                obtain ⟨r0, r1, r2, r3, r4, g0, g1, g2, g3, g4⟩ := rs_of hp3.rs
                go_wp2_with fail
                refine bodyPost_ret (v := .tuple #[.agg #[.int .u8 0, .string ⟨#[]⟩, .int .i64 0, .slice none 0 0, .bool false], .bool false]) (by simp [results, Try.results26, go_sem, r0, r1, r2, r3, r4]) rfl ⟨ret_item HR.out.1.symm HR.out.2.1.symm HR.out.2.2.2.symm, ?_⟩
                rw [HR.out.2.2.1]
                exact fin5 hp3.lt hp3.below hp3.c1
          · have HR : Hid (strK s k0 = 0 ∧ strT s k0 = ⟨#[]⟩ ∧ strE s k0 = j ∧ strO s k0 = false) := str_no (sat_end HS1.out (by omega))
            clear HS1
            clear c0 c1 f1 r0 r1 r2 r3 r4 g0 g1 g2 g3 g4
            refine (at_ps_no (next_at (HPS.out.drew _) HJ.out) _ (by omega)).mono ?_
            rintro e w2 ⟨rfl, hp2⟩
            go_wp2_with fail
            refine (at_ps_no hp2 _ (by omega)).mono ?_
            rintro e w3 ⟨rfl, hp3⟩
            obtain ⟨r0, r1, r2, r3, r4, g0, g1, g2, g3, g4⟩ := rs_of hp3.rs
            go_wp2_with fail
            refine bodyPost_ret (v := .tuple #[.agg #[.int .u8 0, .string ⟨#[]⟩, .int .i64 0, .slice none 0 0, .bool false], .bool false]) (by simp [results, Try.results26, go_sem, r0, r1, r2, r3, r4]) rfl ⟨ret_item HR.out.1.symm HR.out.2.1.symm HR.out.2.2.2.symm, ?_⟩
            rw [HR.out.2.2.1]
            exact fin5 hp3.lt hp3.below hp3.c1
        · have b92 : ((s[k].toNat : Int) == 92) = false := by simp [h92]
          by_cases h32 : (s[k].toNat : Int) < 32
          · have R := str_no (sat_bad HS.out hlt (.inl h32))
            have HR : Hid (strK s k0 = 0 ∧ strT s k0 = ⟨#[]⟩ ∧ strE s k0 = k ∧ strO s k0 = false) := R
            clear R h34 h92
            go_wp2
            go_quiet (fail)
            go_wp2
            go_quiet (fail)
            go_wp2_with fail
            refine bodyPost_ret (v := .tuple #[.agg #[.int .u8 0, .string ⟨#[]⟩, .int .i64 0, .slice none 0 0, .bool false], .bool false]) (by simp [results, Try.results26, go_sem, r0, r1, r2, r3, r4]) rfl ⟨ret_item HR.out.1.symm HR.out.2.1.symm HR.out.2.2.2.symm, ?_⟩
            rw [HR.out.2.2.1]
            exact fin5 HPS.out.lt (below_drewN HPS.out.below _) c1
          · by_cases h126 : 126 < (s[k].toNat : Int)
            · have R := str_no (sat_bad HS.out hlt (.inr h126))
              have HR : Hid (strK s k0 = 0 ∧ strT s k0 = ⟨#[]⟩ ∧ strE s k0 = k ∧ strO s k0 = false) := R
              clear R h34 h92
              go_wp2
              go_quiet (fail)
              go_wp2
              go_quiet (fail)
              go_wp2_with fail
              refine bodyPost_ret (v := .tuple #[.agg #[.int .u8 0, .string ⟨#[]⟩, .int .i64 0, .slice none 0 0, .bool false], .bool false]) (by simp [results, Try.results26, go_sem, r0, r1, r2, r3, r4]) rfl ⟨ret_item HR.out.1.symm HR.out.2.1.symm HR.out.2.2.2.symm, ?_⟩
              rw [HR.out.2.2.1]
              exact fin5 HPS.out.lt (below_drewN HPS.out.below _) c1
            · have HS2 : Hid (SAt s k0 false (acc ++ [s[k]]) (k + 1)) := sat_plain HS.out hlt h34 h92 h32 h126
              clear h34 h92
              go_wp2
              go_quiet (fail)
              go_wp2
              go_quiet (fail)
              go_wp2_with fail
              refine (Try.Builder_WriteByte (w.heap.size + 1) (w.heap.size + 1) (Lib.byteCells acc) _ _ (HPS.out.drew _).bd (by rw [Lib.byteCells_length]; omega) (Nat.le_of_lt (HPS.out.drew _).bsize)).mono ?_
              rintro e w2 ⟨rfl, hb2, hbel⟩
              have hp2 := (HPS.out.drew _).wrote hb2 hbel
              clear c0 c1 f1 r0 r1 r2 r3 r4 g0 g1 g2 g3 g4 hb2 hbel
              have c0 := hp2.c0
              have c1 := hp2.c1
              have f1 := hp2.f1
              have HP2 : Hid (PS w P w.heap.size s k (acc ++ [s[k]]) w2) := hp2
              clear hp2
              go_wp2_with fail
              have HN := next_ps HP2.out
              go_roundw
              case rel => exact ⟨k + 1, acc ++ [s[k]], by simp; omega, by omega, HN, HS2.out⟩
              case measure => rw [HN.pos, HPS.out.pos]; omega
    · have hlt' : ¬ (k : Int) < (s.size : Int) := by omega
      have hdl : decide (k < s.size) = false := by simp; omega
      go_wp2
      go_quiet (fail)
      go_wp2
      have R := str_no (sat_end HS.out (by omega))
      refine bodyPost_ret (v := .tuple #[.agg #[.int .u8 0, .string ⟨#[]⟩, .int .i64 0, .slice none 0 0, .bool false], .bool false]) (by simp [results, Try.results26, go_sem, r0, r1, r2, r3, r4]) rfl ⟨ret_item R.1.symm R.2.1.symm R.2.2.2.symm, ?_⟩
      rw [R.2.2.1]
      exact fin5 HPS.out.lt (below_drewN HPS.out.below _) c1

end Go.Proofs.Qxb6602755a
