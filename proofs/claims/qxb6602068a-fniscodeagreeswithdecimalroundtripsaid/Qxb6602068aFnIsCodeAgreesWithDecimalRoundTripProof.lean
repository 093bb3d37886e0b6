/-
  A proof of 'Rows.FnIsCodeAgreesWithDecimalRoundTripSaid', in the shell that proof-skeleton.mjs wrote for this function. The world's limb is 'Below' in the place of 'Grown' ('[]byte(s)' leaves a mark behind its new row).
-/
import Derived.Test.Qxb6602068aRows
import Derived.Test.Qxb6602068aWalks
import Derived.WalkKit
import Derived.ProofKit
import Derived.OpenShut
import Derived.ShutString
namespace Go.Proofs.Qxb6602068a.fnIsCodeAgreesWithDecimalRoundTrip
open Go.ChangeShapes Go.WideShapes Go.ChangeAt Go.RowKit
open Go.ChangeMaps (open_string shut_string)
set_option linter.unusedVariables false      -- a walk need not use every 'w<i>' (that an integer argument fits its kind)

theorem own : ownKnob Try.prog.godebug = none := by kernel_rfl

/-! ### THE WALK -/
theorem take_snoc (s : ByteArray) (k : Nat) (h : k < s.size) : s.data.toList.take (k + 1) = s.data.toList.take k ++ [s[k]] := by
  rw [List.take_succ_eq_append_getElem (by simpa using h)]; rfl

set_option maxHeartbeats 400000 in
theorem walk_six (a0 : ByteArray) (h6 : a0.size = 6) (w : World) :
    Calls Try.prog 3 #[.string a0] w fun e w' => e = .returned (.bool true) ∧ Below w.heap.size w w' := by
  go_enter Try.func3, Try.ntmps3
  go_wp2_with (first | (go_at_call 6; refine (code_any a0 _).mono ?_; rintro e w1 ⟨rfl, hB⟩) | go_in)
  go_loop [5, 6] (fun n i => ∃ k : Nat, k ≤ 6 ∧ i = .int .i64 k ∧ n = .int .i64 (val (a0.data.toList.take k))) (fun _ i => 6 - (intOf i).toNat)
  case atStart => exact ⟨0, by omega, rfl, rfl⟩
  case round =>
    obtain ⟨k, hk, rfl, rfl⟩ := hrel
    have hvb := val_bound (a0.data.toList.take k) (by rw [List.length_take]; omega)
    by_cases hlt : k < 6
    · have hks : k < a0.size := by omega
      have HS : Hid (val (a0.data.toList.take (k+1)) = val (a0.data.toList.take k) * 10 + ((a0[k].toNat : Int) - 48)) := by
        rw [take_snoc a0 k hks]; exact val_snoc _ _
      have hc8 := a0[k].toNat_lt
      go_wp2
      go_round
      case rel => exact ⟨k + 1, by omega, by go_num, by rw [HS.out]⟩
      case measure => simp [intOf]; omega
    · have : k = 6 := by omega
      subst this
      have hfull : a0.data.toList.take 6 = a0.data.toList := List.take_of_length_le (by have : a0.data.size = 6 := h6; simp; omega)
      rw [hfull] at hvb ⊢
      clear hfull
      have HL : Hid (a0.data.toList.length = 6) := h6
      go_wp2_with fail
      · have hlo : 0 ≤ val a0.data.toList := by assumption
        have hhi : val a0.data.toList ≤ 999999 := by assumption
        refine (pad_any (val a0.data.toList) (by omega) (by omega) _).mono ?_
        rintro e w2 ⟨l, rfl, hP, hB2⟩
        have HT := trip HL.out hlo hhi hP
        go_wp2_with fail
        go_ret
        exact ⟨ret_bool (by rw [ByteArray.toList_eq]; simp), hB.trans (hB2.mono hB.size)⟩
      · have hc := trip_out (code := a0.data.toList) (by omega)
        go_ret
        exact ⟨by rw [hc]; rfl, hB⟩
      · have hc := trip_out (code := a0.data.toList) (by omega)
        go_ret
        exact ⟨by rw [hc]; rfl, hB⟩

theorem walk (a0 : ByteArray) (w0 : a0.size ≤ maxLen) (w : World) :
    Calls Try.prog 3 #[.string a0] w fun e w' => e = .returned (.bool true) ∧ Below w.heap.size w w' := by
  unfold maxLen at w0
  by_cases h6 : a0.size = 6
  · exact walk_six a0 h6 w
  · by_cases hbig : a0.size ≤ 1048576
    · have h6' : ((a0.size : Int) == 6) = false := by rw [beq_eq_false_iff_ne]; omega
      have hc : isCodeB a0.data.toList = false := by
        have : (a0.data.toList.length == 6) = false := by simpa using h6
        unfold isCodeB; rw [this]; rfl
      have hbig' : ¬ (1048576 : Int) < (a0.size : Int) := by omega
      go_enter Try.func3, Try.ntmps3
      go_wp2_with (first | (go_at_call 6; refine (code_any a0 _).mono ?_; rintro e w1 ⟨rfl, hB⟩) | go_in)
      go_ret
      exact ⟨rfl, hB⟩
    · have hbig' : (1048576 : Int) < (a0.size : Int) := by omega
      go_enter Try.func3, Try.ntmps3
      go_wp2
      go_ret
      exact ⟨rfl, Below.refl _ _⟩

/-! ### THE ROW's STEP: WRITTEN OUT: LEAVE IT -/
set_option maxRecDepth 100000 in
theorem lifted (os : Os) (started : os.Started) (H : Type) (enc : TypeId × Value → H) :
    ReturnsInHanded {} Try.checked os 3 .any (Rows.fnIsCodeAgreesWithDecimalRoundTripSpec.pre6 enc Try.prog Try.f3 Rows.fnIsCodeAgreesWithDecimalRoundTripRow.domain false) (Rows.fnIsCodeAgreesWithDecimalRoundTripSpec.post enc Try.prog Try.f3 false true false false) := by
  refine returnsInHanded_of_change (C := Try.checked) own started (by kernel_rfl) Try.func3
    (ChangeSpec.witness6 (enc := enc) (C := Try.checked) false ⟨#[], #[.string ByteArray.empty], []⟩ 8 (by kernel_rfl) (by kernel_rfl) (by kernel_rfl) (by kernel_rfl)) ?_
  intro W base args ds gs before hval0 hW hcnd _
  have hval : ∀ (j : Nat) t v, Try.f3.params[j]? = some t → args[j]? = some v → Value.okWide Try.prog W .any base t v := hval0
  have hW' := hW
  obtain ⟨p, q, hA0, hV, rfl, hfz, hnd⟩ := hW
  have hA : DataW.TrodAll enc Try.prog W 0 (fun _ => true) true Try.f3.params.toList args.toList ds p := hA0
  rw [Try.params3] at hA hval
  obtain ⟨v0, vs0, d0, ds0, p0, q0, hargs, rfl, rfl, h0, r0⟩ := trodAll_cons hA
  obtain ⟨rfl, rfl, rfl⟩ := trodAll_nil r0
  obtain rfl : args = #[v0] := by cases args; simp_all
  obtain ⟨rfl, rfl⟩ := trodVars_none hV
  obtain ⟨a0, rfl, rfl, rfl, w0⟩ := open_string Try.underlying9 (hval 0 9 v0 rfl rfl) h0
  clear hA0 hval0
  simp only [List.append_nil] at hW'
  refine (walk a0 w0 W).mono fun e W' ⟨he, hg⟩ => ?_
  subst he
  exact ⟨_, rfl, _, _, _, [], _, [], hW', trodAll_mk1 (shut_bool Try.underlying4 _), (trodAll_cons_mk (shut_string Try.underlying9 w0) trodAll_mk0), rfl, hg.frame _, fun h => by cases h⟩

theorem over : Rows.fnIsCodeAgreesWithDecimalRoundTripRow.holds Try.pinned (OpenSpec.ofChange Rows.fnIsCodeAgreesWithDecimalRoundTripSpec) :=
  OpenClaim.holds_of_wide 3 Try.f3 rfl rfl rfl rfl rfl rfl rfl ⟨rfl, rfl, rfl, rfl, rfl⟩ rfl rfl rfl rfl rfl (by kernel_rfl) Try.func3 (by kernel_rfl)
    (of_decide_eq_true (by kernel_rfl)) (by unfold Func.isWrapper; first | (rw [if_pos (by decide +kernel)]; kernel_rfl) | (rw [if_neg (by decide +kernel)]; exact ⟨rfl, rfl⟩))
    (fun os started H enc _ => lifted os started H enc)

/-- ████ THE STATEMENT ████ -/
theorem proved : Rows.FnIsCodeAgreesWithDecimalRoundTripSaid :=
  over
end Go.Proofs.Qxb6602068a.fnIsCodeAgreesWithDecimalRoundTrip
