/-
  THE SHELL OF A PROOF OF 'Rows.FnSkipQuotedEncodeRoundTripSaid' ('example.com/sluice/sluice/zzlaws_internal_accesslog_b1.FnSkipQuotedEncodeRoundTrip'), WRITTEN BY PROGRAM (proof-skeleton.mjs) off the guide's own print for that function. Not trusted: Lean checks it.
  Turned by hand: the walk ends in 'Below' (append: the guide's shell over slices has it so), and 'post' is given limb by limb.
-/
import Derived.Test.Qxb6602736aRows
import Derived.Test.Qxb6602736aPlainEsc
import Derived.Test.Qxb6602736aSkipWalks
import Derived.Test.Qxb6602736aEscWalks
import Derived.Below
import Derived.WalkKit
import Derived.ProofKit
import Derived.OpenShut
import Derived.ShutString
namespace Go.Proofs.Qxb6602736a.fnSkipQuotedEncodeRoundTrip
open Go.ChangeShapes Go.WideShapes Go.ChangeAt Go.RowKit
open Go.ChangeMaps (open_string shut_string)
set_option linter.unusedVariables false      -- a walk need not use every 'w<i>' (that an integer argument fits its kind)

theorem own : ownKnob Try.prog.godebug = none := by kernel_rfl

/-! ### STEP 1: THE WALK -/
set_option maxHeartbeats 400000 in
theorem walk (a0 : ByteArray) (a1 : ByteArray) (w0 : a0.size ≤ maxLen) (w1 : a1.size ≤ maxLen) (w : World) :
    Calls Try.prog 8 #[.string a0, .string a1] w fun e w' => e = .returned (.bool true) ∧ Below w.heap.size w w' := by
  have hml0 := w0
  have hml1 := w1
  unfold maxLen at w0 w1
  by_cases h : a0.size + a1.size ≤ 1048576
  · have hd : decide (a0.size + a1.size ≤ 1048576) = true := by simp [h]
    by_cases h0 : a0.size ≤ 262144
    · by_cases h1 : a1.size ≤ 262144
      · have hle := escL_le a0.data.toList
        rw [size_list] at hle
        have hqs := quo_size a0 a1
        have hes : (escB a0).size = (escL a0.data.toList).length := by unfold escB; rw [← size_list]
        have hqb : (quo a0 a1).size ≤ 4194304 := by omega
        have HQ : Hid (skS (quo a0 a1) = a1 ∧ skB (quo a0 a1) = true) := quo_skip a0 a1
        have k1 : ∀ W : World, (Op.stringOp .add ⟨#[34]⟩ (escB a0)).run Try.prog W = .ok (.string (⟨#[34]⟩ ++ escB a0)) W := fun W => run_string_add_sum W _ _ (by rw [hes]; show 1 + _ ≤ _; omega)
        have k2 : ∀ W : World, (Op.stringOp .add (⟨#[34]⟩ ++ escB a0) ⟨#[34]⟩).run Try.prog W = .ok (.string (⟨#[34]⟩ ++ escB a0 ++ ⟨#[34]⟩)) W := fun W => run_string_add_sum W _ _ (by rw [ByteArray.size_append, hes]; show 1 + _ + 1 ≤ _; omega)
        have k3 : ∀ W : World, (Op.stringOp .add (⟨#[34]⟩ ++ escB a0 ++ ⟨#[34]⟩) a1).run Try.prog W = .ok (.string (quo a0 a1)) W := fun W => run_string_add_sum W _ _ (by rw [ByteArray.size_append, ByteArray.size_append, hes]; show 1 + _ + 1 + _ ≤ _; omega)
        clear hqs hes hle
        go_enter Try.func8, Try.ntmps8
        go_wp2_with (first | (go_at_call 20; refine (bytes8_any _ _ _ hml0 hml1).mono ?_; rintro e w' ⟨rfl, rfl⟩; rw [hd]) | (go_at_call 21; refine (esc_any _ _ h0).mono ?_; rintro e w' ⟨rfl, hb⟩) | (go_at_call 26; refine (skip_any _ _ hqb).mono ?_; rintro e w' ⟨rfl, rfl⟩; rw [HQ.out.1, HQ.out.2]) | go_in)
        go_ret
        exact ⟨rfl, by assumption⟩
      · go_enter Try.func8, Try.ntmps8
        go_wp2_with (first | (go_at_call 20; refine (bytes8_any _ _ _ hml0 hml1).mono ?_; rintro e w' ⟨rfl, rfl⟩; rw [hd]))
        go_ret
        exact ⟨rfl, Below.refl _ _⟩
    · go_enter Try.func8, Try.ntmps8
      go_wp2_with (first | (go_at_call 20; refine (bytes8_any _ _ _ hml0 hml1).mono ?_; rintro e w' ⟨rfl, rfl⟩; rw [hd]))
      go_ret
      exact ⟨rfl, Below.refl _ _⟩
  · have hd : decide (a0.size + a1.size ≤ 1048576) = false := by simp [h]
    go_enter Try.func8, Try.ntmps8
    go_wp2_with (first | (go_at_call 20; refine (bytes8_any _ _ _ hml0 hml1).mono ?_; rintro e w' ⟨rfl, rfl⟩; rw [hd]))
    go_ret
    exact ⟨rfl, Below.refl _ _⟩

/-! ### THE ROW's STEP: WRITTEN OUT: LEAVE IT -/
set_option maxRecDepth 100000 in
theorem lifted (os : Os) (started : os.Started) (H : Type) (enc : TypeId × Value → H) :
    ReturnsInHanded {} Try.checked os 8 .any (Rows.fnSkipQuotedEncodeRoundTripSpec.pre6 enc Try.prog Try.f8 Rows.fnSkipQuotedEncodeRoundTripRow.domain false) (Rows.fnSkipQuotedEncodeRoundTripSpec.post enc Try.prog Try.f8 false true false false) := by
  refine returnsInHanded_of_change (C := Try.checked) own started (by kernel_rfl) Try.func8
    (ChangeSpec.witness6 (enc := enc) (C := Try.checked) false ⟨#[], #[.string ByteArray.empty, .string ByteArray.empty], []⟩ 8 (by kernel_rfl) (by kernel_rfl) (by kernel_rfl) (by kernel_rfl)) ?_
  intro W base args ds gs before hval0 hW hcnd _
  have hval : ∀ (j : Nat) t v, Try.f8.params[j]? = some t → args[j]? = some v → Value.okWide Try.prog W .any base t v := hval0
  have hW' := hW
  obtain ⟨p, q, hA0, hV, rfl, hfz, hnd⟩ := hW
  have hA : DataW.TrodAll enc Try.prog W 0 (fun _ => true) true Try.f8.params.toList args.toList ds p := hA0
  rw [Try.params8] at hA hval
  obtain ⟨v0, vs0, d0, ds0, p0, q0, hargs, rfl, rfl, h0, r0⟩ := trodAll_cons hA
  obtain ⟨v1, vs1, d1, ds1, p1, q1, rfl, rfl, rfl, h1, r1⟩ := trodAll_cons r0
  obtain ⟨rfl, rfl, rfl⟩ := trodAll_nil r1
  obtain rfl : args = #[v0, v1] := by cases args; simp_all
  obtain ⟨rfl, rfl⟩ := trodVars_none hV
  obtain ⟨a0, rfl, rfl, rfl, w0⟩ := open_string Try.underlying9 (hval 0 9 v0 rfl rfl) h0
  obtain ⟨a1, rfl, rfl, rfl, w1⟩ := open_string Try.underlying9 (hval 1 9 v1 rfl rfl) h1
  clear hA0 hval0
  simp only [List.append_nil] at hW'
  refine (walk a0 a1 w0 w1 W).mono fun e W' ⟨he, bel⟩ => ?_
  subst he
  exact ⟨_, rfl, _, _, _, [], [], [], hW', trodAll_mk1 (shut_bool Try.underlying4 _), (trodAll_cons_mk (shut_string Try.underlying9 w0) (trodAll_cons_mk (shut_string Try.underlying9 w1) trodAll_mk0)), rfl, bel.frame _, fun h => by cases h⟩

theorem over : Rows.fnSkipQuotedEncodeRoundTripRow.holds Try.pinned (OpenSpec.ofChange Rows.fnSkipQuotedEncodeRoundTripSpec) :=
  OpenClaim.holds_of_wide 8 Try.f8 rfl rfl rfl rfl rfl rfl rfl ⟨rfl, rfl, rfl, rfl, rfl⟩ rfl rfl rfl rfl rfl (by kernel_rfl) Try.func8 (by kernel_rfl)
    (of_decide_eq_true (by kernel_rfl)) (by unfold Func.isWrapper; first | (rw [if_pos (by decide +kernel)]; kernel_rfl) | (rw [if_neg (by decide +kernel)]; exact ⟨rfl, rfl⟩))
    (fun os started H enc _ => lifted os started H enc)

/-- ████ THE STATEMENT ████ -/
theorem proved : Rows.FnSkipQuotedEncodeRoundTripSaid :=
  over
end Go.Proofs.Qxb6602736a.fnSkipQuotedEncodeRoundTrip
