/-
  A proof of 'Rows.FnIsCodeOnPaddedNumbersSaid', in the shell that proof-skeleton.mjs wrote for this function. The world's limb is 'Below' in the place of 'Grown' ('[]byte(s)' leaves a mark behind its new row).
-/
import Derived.Test.Qxb6602068aRows
import Derived.Test.Qxb6602068aWalks
import Derived.WalkKit
import Derived.ProofKit
import Derived.OpenShut
import Derived.ShutString
namespace Go.Proofs.Qxb6602068a.fnIsCodeOnPaddedNumbers
open Go.ChangeShapes Go.WideShapes Go.ChangeAt Go.RowKit
open Go.ChangeMaps (open_string shut_string)
set_option linter.unusedVariables false      -- a walk need not use every 'w<i>' (that an integer argument fits its kind)

theorem own : ownKnob Try.prog.godebug = none := by kernel_rfl

/-! ### THE WALK -/
set_option maxHeartbeats 400000 in
theorem walk (a0 : Int) (w0 : (Lit.int .i64 a0).wf = true) (w : World) :
    Calls Try.prog 4 #[.int .i64 a0] w fun e w' => e = .returned (.bool true) ∧ Below w.heap.size w w' := by
  have hb := w0
  simp only [Lit.wf, Bool.and_eq_true, decide_eq_true_eq] at hb
  have hmin : IntKind.i64.min = -9223372036854775808 := rfl
  have hmax : IntKind.i64.max = 9223372036854775807 := rfl
  have hlo : -9223372036854775808 ≤ a0 := by omega
  have hhi : a0 ≤ 9223372036854775807 := by omega
  clear hb w0 hmin hmax
  by_cases h0 : a0 < 0
  · have hd : decide (0 ≤ a0) = false := by simp; omega
    go_enter Try.func4, Try.ntmps4
    go_wp2_with fail
    refine (pad_any a0 hlo hhi _).mono ?_
    rintro e w1 ⟨l, rfl, hP, hB⟩
    have hcode := pad_code hP
    go_wp2_with fail
    refine (code_any _ _).mono ?_
    rintro e w2 ⟨rfl, hB2⟩
    go_wp2_with fail
    go_ret
    exact ⟨rfl, hB.trans (hB2.mono hB.size)⟩
  · have hd : decide (0 ≤ a0) = true := by simp; omega
    by_cases h9 : a0 ≤ 999999
    all_goals
      go_enter Try.func4, Try.ntmps4
      go_wp2_with fail
      refine (pad_any a0 hlo hhi _).mono ?_
      rintro e w1 ⟨l, rfl, hP, hB⟩
      have hcode := pad_code hP
      go_wp2_with fail
      refine (code_any _ _).mono ?_
      rintro e w2 ⟨rfl, hB2⟩
      go_wp2_with fail
      go_ret
      exact ⟨rfl, hB.trans (hB2.mono hB.size)⟩

/-! ### THE ROW's STEP: WRITTEN OUT: LEAVE IT -/
set_option maxRecDepth 100000 in
theorem lifted (os : Os) (started : os.Started) (H : Type) (enc : TypeId × Value → H) :
    ReturnsInHanded {} Try.checked os 4 .any (Rows.fnIsCodeOnPaddedNumbersSpec.pre6 enc Try.prog Try.f4 Rows.fnIsCodeOnPaddedNumbersRow.domain false) (Rows.fnIsCodeOnPaddedNumbersSpec.post enc Try.prog Try.f4 false true false false) := by
  refine returnsInHanded_of_change (C := Try.checked) own started (by kernel_rfl) Try.func4
    (ChangeSpec.witness6 (enc := enc) (C := Try.checked) false ⟨#[], #[.int .i64 0], []⟩ 8 (by kernel_rfl) (by kernel_rfl) (by kernel_rfl) (by kernel_rfl)) ?_
  intro W base args ds gs before hval0 hW hcnd _
  have hval : ∀ (j : Nat) t v, Try.f4.params[j]? = some t → args[j]? = some v → Value.okWide Try.prog W .any base t v := hval0
  have hW' := hW
  obtain ⟨p, q, hA0, hV, rfl, hfz, hnd⟩ := hW
  have hA : DataW.TrodAll enc Try.prog W 0 (fun _ => true) true Try.f4.params.toList args.toList ds p := hA0
  rw [Try.params4] at hA hval
  obtain ⟨v0, vs0, d0, ds0, p0, q0, hargs, rfl, rfl, h0, r0⟩ := trodAll_cons hA
  obtain ⟨rfl, rfl, rfl⟩ := trodAll_nil r0
  obtain rfl : args = #[v0] := by cases args; simp_all
  obtain ⟨rfl, rfl⟩ := trodVars_none hV
  obtain ⟨a0, rfl, rfl, rfl, w0⟩ := open_int Try.underlying2 (hval 0 2 v0 rfl rfl) h0
  clear hA0 hval0
  simp only [List.append_nil] at hW'
  refine (walk a0 w0 W).mono fun e W' ⟨he, hg⟩ => ?_
  subst he
  exact ⟨_, rfl, _, _, _, [], _, [], hW', trodAll_mk1 (shut_bool Try.underlying4 _), (trodAll_cons_mk (shut_int Try.underlying2 w0) trodAll_mk0), rfl, hg.frame _, fun h => by cases h⟩

theorem over : Rows.fnIsCodeOnPaddedNumbersRow.holds Try.pinned (OpenSpec.ofChange Rows.fnIsCodeOnPaddedNumbersSpec) :=
  OpenClaim.holds_of_wide 4 Try.f4 rfl rfl rfl rfl rfl rfl rfl ⟨rfl, rfl, rfl, rfl, rfl⟩ rfl rfl rfl rfl rfl (by kernel_rfl) Try.func4 (by kernel_rfl)
    (of_decide_eq_true (by kernel_rfl)) (by unfold Func.isWrapper; first | (rw [if_pos (by decide +kernel)]; kernel_rfl) | (rw [if_neg (by decide +kernel)]; exact ⟨rfl, rfl⟩))
    (fun os started H enc _ => lifted os started H enc)

/-- ████ THE STATEMENT ████ -/
theorem proved : Rows.FnIsCodeOnPaddedNumbersSaid :=
  over
end Go.Proofs.Qxb6602068a.fnIsCodeOnPaddedNumbers
