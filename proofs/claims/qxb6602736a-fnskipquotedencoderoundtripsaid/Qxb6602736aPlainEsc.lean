/-
  THE PLAIN LAWS of the writer's escape: what is skipped is exactly what was written.
-/
import Derived.Test.Qxb6602736aPlainSkip
namespace Go.Proofs.Qxb6602736a

def escC (c : UInt8) : List UInt8 := if c = 34 ∨ c = 92 then [92, c] else [c]
def escL (l : List UInt8) : List UInt8 := l.flatMap escC
def escB (t : ByteArray) : ByteArray := ⟨(escL t.data.toList).toArray⟩

theorem escC_le (c : UInt8) : (escC c).length ≤ 2 := by unfold escC; split <;> simp
theorem escL_le (l : List UInt8) : (escL l).length ≤ 2 * l.length := by
  unfold escL
  induction l with
  | nil => simp
  | cons c l ih => rw [List.flatMap_cons, List.length_append, List.length_cons]; have := escC_le c; omega

theorem escL_snoc (l : List UInt8) (c : UInt8) : escL (l ++ [c]) = escL l ++ escC c := by
  unfold escL; rw [List.flatMap_append]; simp

theorem auto_esc (l rest : List UInt8) : auto false (escL l ++ 34 :: rest) = some rest := by
  induction l with
  | nil => simp [escL, auto]
  | cons c l ih =>
    have e : escL (c :: l) = escC c ++ escL l := by unfold escL; rw [List.flatMap_cons]
    rw [e]
    unfold escC
    by_cases h : c = 34 ∨ c = 92
    · rw [if_pos h]; simp [auto, ih]
    · rw [if_neg h]
      have h1 : ¬ c = 92 := fun e => h (.inr e)
      have h2 : ¬ c = 34 := fun e => h (.inl e)
      simp [auto, ih, h1, h2]

/-- The quoted text and what follows it, as the Go text joins them. -/
def quo (t r : ByteArray) : ByteArray := ⟨#[34]⟩ ++ escB t ++ ⟨#[34]⟩ ++ r

theorem quo_data (t r : ByteArray) : (quo t r).data.toList = 34 :: (escL t.data.toList ++ 34 :: r.data.toList) := by
  unfold quo escB
  simp

theorem quo_size (t r : ByteArray) : (quo t r).size = (escL t.data.toList).length + r.size + 2 := by
  rw [← size_list, quo_data]
  simp only [List.length_cons, List.length_append, size_list]
  omega

theorem quo_skip (t r : ByteArray) : skS (quo t r) = r ∧ skB (quo t r) = true := by
  unfold skS skB
  rw [quo_data, skR]
  rw [if_pos rfl, auto_esc]
  exact ⟨Lib.mk_data r, rfl⟩

end Go.Proofs.Qxb6602736a
