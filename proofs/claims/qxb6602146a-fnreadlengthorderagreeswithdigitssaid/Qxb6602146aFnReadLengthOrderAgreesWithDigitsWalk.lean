/-
  Seat b6602146a: the walk of FnReadLengthOrderAgreesWithDigits (6).
-/
import Derived.Test.Qxb6602146aWalks
namespace Go.Proofs.Qxb6602146a.fnReadLengthOrderAgreesWithDigits
open Go.RowKit Go.PlainAid

theorem isLength_back (s : ByteArray) (w : World) : Calls Try.prog 13 #[.string s] w fun e w' => e = .returned (.bool (isLenB s.data.toList)) ∧ w = w' :=
  (isLength_any s w).mono fun _ _ h => ⟨h.1, h.2.symm⟩

theorem same_of {x y : Nat} {l r : List UInt8} (h : decide (x = y) = decide (l = r)) : (((x : Int) == (y : Int)) == (l == r)) = true := by
  have h1 : ((x : Int) == (y : Int)) = decide (x = y) := by rw [Bool.eq_iff_iff]; simp; omega
  have h2 : (l == r) = decide (l = r) := by rw [Bool.eq_iff_iff]; simp
  rw [h1, h2, h]; simp
theorem strip_le {l r : List UInt8} (h : Strip l r) {n : Nat} (hl : l.length ≤ n) : r.length ≤ n := by
  obtain ⟨i, rfl, _⟩ := h
  rw [List.length_drop]; omega
theorem shorter_list (a b : List UInt8) (w : World) (ha : a.length ≤ 18) (hb : b.length ≤ 18) : Calls Try.prog 17 #[.string ⟨a.toArray⟩, .string ⟨b.toArray⟩] w fun e w' => e = .returned (.bool (shortB a b)) ∧ ∃ n, w' = w.drewN n := by
  have := shorter_any ⟨a.toArray⟩ ⟨b.toArray⟩ w (by show a.toArray.size ≤ 18; simpa using ha) (by show b.toArray.size ≤ 18; simpa using hb)
  simpa using this

set_option maxRecDepth 100000 in
set_option maxHeartbeats 1000000 in
theorem walk_in (a0 a1 : ByteArray) (h0 : isLenB a0.data.toList = true) (h1 : isLenB a1.data.toList = true) (w : World) :
    Calls Try.prog 6 #[.string a0, .string a1] w fun e w' => e = .returned (.bool true) ∧ Below w.heap.size w w' := by
  obtain ⟨p1, p2, pd⟩ := isLen_yes h0
  obtain ⟨q1, q2, qd⟩ := isLen_yes h1
  have PD : Hid (a0.data.toList.all digB = true) := pd
  have QD : Hid (a1.data.toList.all digB = true) := qd
  clear pd qd
  have x1 : ¬ (1048576 : Int) < (a0.size : Int) := by omega
  go_enter Try.func6, Try.ntmps6
  go_wp2_with (first | (go_at_call 16; go_in) | (go_at_call 13; refine (isLength_back _ _).mono ?_; rintro e w1 ⟨rfl, rfl⟩) | fail)
  refine (zzRead_yes a0 w.heap.size (.int .i64 0) _ h0 (by simp) (by simp)).mono ?_
  rintro e w1 ⟨rfl, rfl⟩
  go_wp2_with fail
  refine (zzRead_yes a1 (w.heap.size + 1) (.int .i64 0) _ h1 (by simp) (by simp)).mono ?_
  rintro e w2 ⟨rfl, rfl⟩
  go_wp2_with fail
  refine (strip_any a0 _ p1 p2).mono ?_
  rintro e w3 ⟨ra, rfl, hra, rfl⟩
  go_wp2_with fail
  refine (strip_any a1 _ q1 q2).mono ?_
  rintro e w4 ⟨rb, rfl, hrb, rfl⟩
  go_wp2_with fail
  obtain ⟨o1, o2⟩ := order_law PD.out QD.out hra hrb
  have hg1 : decide (((numv a0.data.toList : Nat) : Int) < ((numv a1.data.toList : Nat) : Int)) = shortB ra rb := by
    rw [← o1, decide_eq_decide]; omega
  have l1 : ra.length ≤ 18 := strip_le hra (by exact p2)
  have l2 : rb.length ≤ 18 := strip_le hrb (by exact q2)
  have O2 : Hid (decide (numv a0.data.toList = numv a1.data.toList) = decide (ra = rb)) := o2
  clear o2
  have hg2 : (shortB ra rb == shortB ra rb) = true := by simp
  have c0 : ((w.alloc (.cells #[.int .i64 (numv a0.data.toList : Int)] 2)).alloc (.cells #[.int .i64 (numv a1.data.toList : Int)] 2)).cell? ⟨w.heap.size, 0, none⟩ = some (.int .i64 (numv a0.data.toList : Int)) := by simp
  have c1 : ((w.alloc (.cells #[.int .i64 (numv a0.data.toList : Int)] 2)).alloc (.cells #[.int .i64 (numv a1.data.toList : Int)] 2)).cell? ⟨w.heap.size + 1, 0, none⟩ = some (.int .i64 (numv a1.data.toList : Int)) := by simp
  have hBl : Below w.heap.size w ((w.alloc (.cells #[.int .i64 (numv a0.data.toList : Int)] 2)).alloc (.cells #[.int .i64 (numv a1.data.toList : Int)] 2)) := by go_grown
  generalize ((w.alloc (.cells #[.int .i64 (numv a0.data.toList : Int)] 2)).alloc (.cells #[.int .i64 (numv a1.data.toList : Int)] 2)) = W at c0 c1 hBl ⊢
  go_quiet ((go_at_call 17; exact Calls.quiet_of (shorter_list ra rb _ l1 l2)))
  go_wp2
  go_ret
  exact ⟨ret_bool (same_of O2.out), below_drewN hBl _⟩

set_option maxHeartbeats 1000000 in
theorem walk (a0 a1 : ByteArray) (w0 : a0.size ≤ maxLen) (w1 : a1.size ≤ maxLen) (w : World) :
    Calls Try.prog 6 #[.string a0, .string a1] w fun e w' => e = .returned (.bool true) ∧ Below w.heap.size w w' := by
  unfold maxLen at w0 w1
  by_cases k0 : a0.size ≤ 1048576
  · by_cases k1 : a1.size ≤ 1048576
    · by_cases k2 : a0.size + a1.size ≤ 1048576
      · cases h0 : isLenB a0.data.toList with
        | false =>
          have x1 : ¬ (1048576 : Int) < (a0.size : Int) := by omega
          go_enter Try.func6, Try.ntmps6
          go_wp2_with (first | (go_at_call 16; go_in) | (go_at_call 13; refine (isLength_back _ _).mono ?_; rintro e w1 ⟨rfl, rfl⟩) | fail)
          go_ret
          exact ⟨rfl, Below.refl _ _⟩
        | true =>
          cases h1 : isLenB a1.data.toList with
          | false =>
            have x1 : ¬ (1048576 : Int) < (a0.size : Int) := by omega
            go_enter Try.func6, Try.ntmps6
            go_wp2_with (first | (go_at_call 16; go_in) | (go_at_call 13; refine (isLength_back _ _).mono ?_; rintro e w1 ⟨rfl, rfl⟩) | fail)
            go_ret
            exact ⟨rfl, Below.refl _ _⟩
          | true => exact walk_in a0 a1 h0 h1 w
      · go_enter Try.func6, Try.ntmps6
        go_wp2
        go_ret
        exact ⟨rfl, Below.refl _ _⟩
    · go_enter Try.func6, Try.ntmps6
      go_wp2
      go_ret
      exact ⟨rfl, Below.refl _ _⟩
  · go_enter Try.func6, Try.ntmps6
    go_wp2
    go_ret
    exact ⟨rfl, Below.refl _ _⟩
end Go.Proofs.Qxb6602146a.fnReadLengthOrderAgreesWithDigits
