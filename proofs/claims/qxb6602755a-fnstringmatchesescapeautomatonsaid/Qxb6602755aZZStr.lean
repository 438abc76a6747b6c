/-
  THE WALK of ZZString.
-/
import Derived.Test.Qxb6602755aStrWalks
namespace Go.Proofs.Qxb6602755a
open Go.RowKit

/-- What ZZString hands back. -/
def zzV (s : ByteArray) (k : Nat) : Value := .tuple #[.int .u8 (strK s k), .string (strT s k), .int .i64 0, .slice none 0 0, .bool false, .int .i64 (strE s k), .bool (strO s k)]

set_option maxRecDepth 10000 in
set_option maxHeartbeats 1000000 in
theorem zzstring_any (s : ByteArray) (k0 : Nat) (x : Int) (w : World) (hs : s.size ≤ 4194304) (hk0 : k0 ≤ 9223372036854775807) (hx : x = (k0 : Int) - 1) :
    Calls Try.prog 18 #[.string s, .int .i64 x] w fun e w' => e = .returned (zzV s k0) ∧ Below w.heap.size w w' := by
  subst hx
  go_enter Try.func18, Try.ntmps18
  go_wp2_with fail
  refine (string_any w.heap.size s k0 _ hs hk0 (heap_new _ _)).mono ?_
  rintro e w2 ⟨rfl, c1, hb⟩
  have hz : w.heap.size < w2.heap.size := by have := hb.size; simp at this; omega
  have hb2 : Below w.heap.size w w2 := ((Below.refl _ w).alloc (Nat.le_refl _) _).trans hb
  clear hb
  go_wp2_with fail
  go_quiet (fail)
  go_wp2_with fail
  exact bodyPost_ret (v := zzV s k0) (by simp [results, Try.results18, go_sem, zzV]) rfl ⟨rfl, below_drewN (hb2.alloc (Nat.le_of_lt hz) _) _⟩

end Go.Proofs.Qxb6602755a
