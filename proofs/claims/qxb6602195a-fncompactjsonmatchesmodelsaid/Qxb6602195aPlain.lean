/-
  Seat b6602195a: compacting as a fold over the bytes. No Go in sight.
-/
namespace Go.Proofs.Qxb6602195a

def spaceB (c : Int) : Bool := c == 32 || c == 9 || c == 10 || c == 13

/-- The state: in a string, behind a backslash, what has been kept. -/
structure St where
  q : Bool
  e : Bool
  out : List Int

def stp (s : St) (c : Int) : St :=
  if s.e then ⟨s.q, false, s.out ++ [c]⟩
  else if s.q then ⟨c != 34, c == 92, s.out ++ [c]⟩
  else if c == 34 then ⟨true, false, s.out ++ [c]⟩
  else if spaceB c then ⟨false, false, s.out⟩
  else ⟨false, false, s.out ++ [c]⟩

/-- The state behind the first k bytes. -/
def run (l : List Int) (k : Nat) : St := (l.take k).foldl stp ⟨false, false, []⟩

theorem run_zero (l : List Int) : run l 0 = ⟨false, false, []⟩ := rfl
theorem run_succ (l : List Int) (k : Nat) (h : k < l.length) : run l (k+1) = stp (run l k) (l.getD k 0) := by
  unfold run
  rw [List.take_succ_eq_append_getElem h, List.foldl_append, List.getD_eq_getElem?_getD, List.getElem?_eq_getElem h]
  rfl
theorem stp_len (s : St) (c : Int) : (stp s c).out.length ≤ s.out.length + 1 := by
  unfold stp
  repeat' split
  all_goals simp
theorem run_len (l : List Int) (k : Nat) (h : k ≤ l.length) : (run l k).out.length ≤ k := by
  induction k with
  | zero => simp [run_zero]
  | succ k ih =>
    rw [run_succ l k (by omega)]
    have := stp_len (run l k) (l.getD k 0)
    have := ih (by omega)
    omega
end Go.Proofs.Qxb6602195a
namespace Go.Proofs.Qxb6602195a
/-- Outside every string, at a state that says so. -/
theorem run_open {l : List Int} {k : Nat} (h : k < l.length) (hq : (run l k).q = false) (he : (run l k).e = false) (hc : l.getD k 0 = 34) :
    run l (k+1) = ⟨true, false, (run l k).out ++ [l.getD k 0]⟩ := by
  rw [run_succ l k h]; generalize l.getD k 0 = c at hc ⊢; simp [stp, hq, he, hc]
theorem run_space {l : List Int} {k : Nat} (h : k < l.length) (hq : (run l k).q = false) (he : (run l k).e = false) (hc : l.getD k 0 ≠ 34) (hs : spaceB (l.getD k 0) = true) :
    run l (k+1) = ⟨false, false, (run l k).out⟩ := by
  rw [run_succ l k h]; generalize l.getD k 0 = c at hc hs ⊢; simp [stp, hq, he, hc, hs]
theorem run_plain {l : List Int} {k : Nat} (h : k < l.length) (hq : (run l k).q = false) (he : (run l k).e = false) (hc : l.getD k 0 ≠ 34) (hs : spaceB (l.getD k 0) = false) :
    run l (k+1) = ⟨false, false, (run l k).out ++ [l.getD k 0]⟩ := by
  rw [run_succ l k h]; generalize l.getD k 0 = c at hc hs ⊢; simp [stp, hq, he, hc, hs]
/-- Inside a string. -/
theorem run_in {l : List Int} {k : Nat} (h : k < l.length) (hq : (run l k).q = true) (he : (run l k).e = false) :
    run l (k+1) = ⟨l.getD k 0 != 34, l.getD k 0 == 92, (run l k).out ++ [l.getD k 0]⟩ := by
  rw [run_succ l k h]; simp [stp, hq, he]
/-- Behind a backslash. -/
theorem run_esc {l : List Int} {k : Nat} (h : k < l.length) (he : (run l k).e = true) :
    run l (k+1) = ⟨(run l k).q, false, (run l k).out ++ [l.getD k 0]⟩ := by
  rw [run_succ l k h]; simp [stp, he]
end Go.Proofs.Qxb6602195a
