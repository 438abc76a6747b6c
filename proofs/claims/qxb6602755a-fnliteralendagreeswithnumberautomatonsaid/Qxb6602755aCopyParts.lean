/-
  WHAT THE LAWS ON make AND copy LEAVE, for 'q := make([]byte, len(p)); copy(q, p)'; literalEnd's contract, spelt as the walks have it.
-/
import Derived.Test.Qxb6602755aLitEndWalks
import Derived.Laws.CopyOwn
namespace Go.Proofs.Qxb6602755a
open Go.RowKit

theorem Try.info5 : (Try.prog.info? 5).map (fun i => (i.zero, i.size, i.bytes)) = some (some (.int .u8 0), 1, 1) := by kernel_rfl
theorem Try.size5 : (Try.prog.info? 5).map (·.size) = some 1 := by kernel_rfl

theorem own_row {w : World} {g n : Nat} {xs : List Value} (h : w.ownsRow g 5 1 (.slice (some ⟨g, 0, none⟩) n n) n xs) : ∃ cur : List Value, w.heap[g]? = some (.cells cur.toArray 5 (0, 0)) ∧ cur.length = n := by
  obtain ⟨_, h | ⟨g', cap, cur, hv, _, hh, _, _, hs, _⟩⟩ := h
  · exact absurd h.1 (by simp)
  · simp only [Value.slice.injEq, Option.some.injEq, Addr.mk.injEq] at hv
    obtain ⟨⟨rfl, _⟩, _, rfl⟩ := hv
    exact ⟨cur.toList, by simpa using hh, by simpa using hs⟩

theorem splice_whole (cur : List Value) (cs : List Value) (h : cur.length = cs.length) : splice cur 0 cs = cs := by
  unfold splice; simp [← h]

theorem row_cells {w : World} {g : Nat} {cs : List Value} (h : w.heap[g]? = some (.cells cs.toArray 5 (0, 0))) (i : Nat) : w.cell? ⟨g, i, none⟩ = cs[i]? := by
  unfold World.cell?; rw [h]; simp

theorem nums_cells {w : World} {g : Nat} {l : List Int} {cur : List Value} (h : w.heap[g]? = some (.cells (splice cur 0 (l.map (Value.int .u8))).toArray 5 (0, 0))) (hc : cur.length = l.length) :
    ∀ i, i < l.length → w.cell? ⟨g, 0 + i, none⟩ = some (.int .u8 (el l i)) := by
  intro i hi
  rw [splice_whole _ _ (by simpa using hc)] at h
  rw [Nat.zero_add, row_cells h i]
  simp [el, hi]

theorem nums_one (l : List Int) : ∀ v ∈ l.map (Value.int .u8), v.oneCell' = true := ints_oneCell _ _

theorem cell_lt {w : World} {p : Addr} {v : Value} (h : w.cell? p = some v) : p.block < w.heap.size := by
  rcases Nat.lt_or_ge p.block w.heap.size with h' | h'
  · exact h'
  · unfold World.cell? at h; rw [Array.getElem?_eq_none h'] at h; simp at h

theorem grown_none {w w' : World} (h : w.grownBy w' none) : Below w.heap.size w w' := (Below.refl _ _).grown h (Nat.le_refl _) (fun k hk => by cases hk)

theorem src_cells {w w1 : World} {x : Addr} {l : List Int} {n : Nat} (hb : Below w.heap.size w w1) (hn : n = l.length) (cl : ∀ i, i < n → w.cell? (x.add i) = some (.int .u8 (el l i))) :
    ∀ j v, (l.map (Value.int .u8))[j]? = some v → w1.cell? (x.add j) = some v := by
  intro j v hv
  have hj : j < l.length := by
    have := (List.getElem?_eq_some_iff.1 hv).1
    simpa using this
  have h := cl j (by omega)
  rw [hb.cell (cell_lt h), h]
  rw [← hv]
  simp [el, hj]

theorem heap_lt {w : World} {g : Nat} {o : Obj} (h : w.heap[g]? = some o) : g < w.heap.size := (Array.getElem?_eq_some_iff.1 h).1

theorem below_cells {w w' : World} {g o : Nat} {f : Nat → Value} {n : Nat} (hb : Below w.heap.size w w') (hg : g < w.heap.size) (cl : ∀ i, i < n → w.cell? ⟨g, o + i, none⟩ = some (f i)) :
    ∀ i, i < n → w'.cell? ⟨g, o + i, none⟩ = some (f i) := fun i hi => (hb.cell hg).trans (cl i hi)

theorem below_step {B : Nat} {w0 w w' : World} (h : Below B w0 w) (hB : B ≤ w.heap.size) (hb : Below w.heap.size w w') : Below B w0 w' := h.trans (hb.mono hB)

theorem el_take {l : List Int} {E i : Nat} (hi : i < E) : el (l.take E) i = el l i := by
  unfold el; simp [List.getD, hi]

theorem el_drop (l : List Int) (p i : Nat) : el (l.drop p) i = el l (p + i) := by
  unfold el; simp [List.getD]

/-- literalEnd, its arguments spelt by letters. -/
theorem litEnd_at (l : List Int) (hl : Bytes l) (b o c n pos : Nat) (x : Int) (w : World) (hn : n = l.length) (hx : x = (pos : Int)) (hc : n ≤ c) (hpos : pos < n) (hb : n ≤ 4194304) (hbw : b < w.heap.size)
    (cl : ∀ i, i < n → w.cell? ⟨b, o + i, none⟩ = some (.int .u8 (el l i))) :
    Calls Try.prog 22 #[.slice (some ⟨b, o, none⟩) n c, .int .i64 x] w fun e w' => e = .returned (.tuple #[.int .i64 (litE l pos), .bool (litO l pos)]) ∧ Below w.heap.size w w' := by
  subst hn hx
  exact litEnd_any l hl b o c pos w hc hpos hb hbw cl

end Go.Proofs.Qxb6602755a
