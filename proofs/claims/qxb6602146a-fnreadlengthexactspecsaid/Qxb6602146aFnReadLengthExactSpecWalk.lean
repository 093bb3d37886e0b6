/-
  Seat b6602146a: the walk of FnReadLengthExactSpec (5).
-/
import Derived.Test.Qxb6602146aWalks
namespace Go.Proofs.Qxb6602146a.fnReadLengthExactSpec
open Go.RowKit Go.PlainAid

set_option maxHeartbeats 400000 in
theorem walk (a0 : ByteArray) (a1 : Int) (w0 : a0.size ≤ maxLen) (w : World) :
    Calls Try.prog 5 #[.string a0, .int .i64 a1] w fun e w' => e = .returned (.bool true) ∧ Below w.heap.size w w' := by
  unfold maxLen at w0
  by_cases hbig : a0.size ≤ 1048576
  · have x1 : ¬ (1048576 : Int) < (a0.size : Int) := by omega
    by_cases hL : isLenB a0.data.toList = true
    · obtain ⟨h1, h2, hd⟩ := isLen_yes hL
      have hv : numv a0.data.toList < 1000000000000000000 := by
        have := num_bound a0 a0.size h2 (by rw [take_all]; exact hd)
        rwa [take_all] at this
      have HD : Hid (a0.data.toList.all digB = true) := hd
      clear hd
      go_enter Try.func5, Try.ntmps5
      go_wp2_with (first | (go_at_call 11; go_in) | fail)
      refine (zzRead_yes a0 w.heap.size (.int .i64 a1) _ hL (by simp) (by simp)).mono ?_
      rintro e w1 ⟨rfl, rfl⟩
      go_wp2_with fail
      refine (isLength_any a0 _).mono ?_
      rintro e w2 ⟨rfl, rfl⟩
      go_wp2_with fail
      refine (decimal_any (numv a0.data.toList) hv _).mono ?_
      rintro e w3 ⟨q, rfl, hq, hB⟩
      go_wp2_with fail
      refine (strip_any a0 _ h1 h2).mono ?_
      rintro e w4 ⟨r, rfl, hr, rfl⟩
      have he := dec_strip hr HD.out hq
      subst he
      go_wp2_with fail
      go_ret
      refine ⟨ret_bool (by simp), ?_⟩
      refine Below.trans ?_ (hB.mono (by simp))
      exact ((Below.refl _ w).alloc (Nat.le_refl _) _)
    · have hL' : isLenB a0.data.toList = false := by simpa using hL
      clear hL
      go_enter Try.func5, Try.ntmps5
      go_wp2_with (first | (go_at_call 11; go_in) | fail)
      refine (zzRead_no a0 _ _ hL').mono ?_
      rintro e w1 ⟨rfl, rfl⟩
      go_wp2_with fail
      refine (isLength_any a0 _).mono ?_
      rintro e w2 ⟨rfl, rfl⟩
      go_wp2_with fail
      go_ret
      exact ⟨ret_bool (by simp), by go_grown⟩
  · go_enter Try.func5, Try.ntmps5
    go_wp2
    go_ret
    exact ⟨rfl, Below.refl _ _⟩
end Go.Proofs.Qxb6602146a.fnReadLengthExactSpec
