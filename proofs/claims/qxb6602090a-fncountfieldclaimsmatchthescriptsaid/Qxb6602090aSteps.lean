/-
  Seat b6602090a: slices of steps; sharedSteps (29).
-/
import Derived.Test.Qxb6602090aCount
namespace Go.Proofs.Qxb6602090a
open Go.RowKit

abbrev Step := ByteArray × Bool

/-- How many steps two keys share from their first. -/
def lcp : List Step → List Step → Nat
  | a :: l, b :: r => if a = b then lcp l r + 1 else 0
  | _, _ => 0

/-- The steps A lie in block K from cell p on. -/
def StepsAt (w : World) (K p : Nat) (A : List Step) : Prop :=
  ∀ i s, A[i]? = some s → w.cell? ⟨K, p + i * 2, none⟩ = some (.string s.1) ∧ w.cell? ⟨K, p + i * 2 + 1, none⟩ = some (.bool s.2)

theorem lcp_step {A B : List Step} {k : Nat} (h : A.take k = B.take k) (hA : k ≤ A.length) (hB : k ≤ B.length) : lcp A B = k + lcp (A.drop k) (B.drop k) := by
  induction k generalizing A B with
  | zero => simp
  | succ k ih =>
    match A, B, hA, hB with
    | a :: l, b :: r, hA, hB =>
      simp only [List.take_succ_cons, List.cons.injEq] at h
      simp only [List.drop_succ_cons]
      rw [← h.1]
      simp only [lcp, if_true]
      rw [ih h.2 (by simpa using hA) (by simpa using hB)]
      omega
theorem lcp_end {A B : List Step} {k : Nat} (h : A.take k = B.take k) (hA : k ≤ A.length) (hB : k ≤ B.length) (he : ∀ a b, A[k]? = some a → B[k]? = some b → a ≠ b) : lcp A B = k := by
  rw [lcp_step h hA hB]
  cases hx : A.drop k with
  | nil => simp [lcp]
  | cons a l =>
    cases hy : B.drop k with
    | nil => simp [lcp]
    | cons b r =>
      have h1 : A[k]? = some a := by rw [← List.head?_drop, hx]; rfl
      have h2 : B[k]? = some b := by rw [← List.head?_drop, hy]; rfl
      simp [lcp, he a b h1 h2]

theorem step_ext {a b : Step} (h1 : a.1.toList = b.1.toList) (h2 : a.2 = b.2) : a = b := by
  obtain ⟨a1, a2⟩ := a
  obtain ⟨b1, b2⟩ := b
  rw [ByteArray.toList_eq, ByteArray.toList_eq] at h1
  rw [show a1 = b1 from Go.WideShapes.bytes_inj h1, show a2 = b2 from h2]

set_option maxRecDepth 100000 in
set_option maxHeartbeats 1000000 in
theorem shared_any (w : World) (K1 p1 c1 K2 p2 c2 : Nat) (A B : List Step) (hA : StepsAt w K1 p1 A) (hB : StepsAt w K2 p2 B) (nB : B.length ≤ 1048576) :
    Calls Try.prog 29 #[.slice (some ⟨K1, p1, none⟩) A.length c1, .slice (some ⟨K2, p2, none⟩) B.length c2] w fun e w' => e = .returned (.int .i64 (lcp A B)) ∧ ∃ n, w' = w.drewN n := by
  have HA : Hid (StepsAt w K1 p1 A) := hA
  have HB : Hid (StepsAt w K2 p2 B) := hB
  clear hA hB
  go_enter Try.func29, Try.ntmps29
  go_wp2
  go_loopw [5] (fun i wr => ∃ k n : Nat, k ≤ A.length ∧ k ≤ B.length ∧ i = .int .i64 k ∧ wr = w.drewN n ∧ Hid (A.take k = B.take k)) (fun i _ => A.length - (intOf i).toNat)
  case atStart => exact ⟨0, 0, by omega, by omega, rfl, rfl, by simp [Hid]⟩
  case round =>
    obtain ⟨k, n, hka, hkb, rfl, rfl, HT⟩ := hrel
    have hk0 : (0 : Int) ≤ (k : Int) := by omega
    by_cases h1 : k < A.length
    · have d1 : decide ((k : Int) < (A.length : Int)) = true := decide_eq_true (by omega)
      have i1 : (k : Int) < (A.length : Int) := by omega
      by_cases h2 : k < B.length
      · have d2 : decide ((k : Int) < (B.length : Int)) = true := decide_eq_true (by omega)
        have i2 : (k : Int) < (B.length : Int) := by omega
        obtain ⟨a, ha⟩ : ∃ a, A[k]? = some a := ⟨_, List.getElem?_eq_getElem h1⟩
        obtain ⟨b, hb⟩ : ∃ b, B[k]? = some b := ⟨_, List.getElem?_eq_getElem h2⟩
        obtain ⟨ca1, ca2⟩ := HA.out k a ha
        obtain ⟨cb1, cb2⟩ := HB.out k b hb
        by_cases hab : a = b
        · subst hab
          go_wp2
          go_quiet (fail)
          go_wp2
          go_roundw
          case rel =>
            refine ⟨k + 1, _, by omega, by omega, by go_num, rfl, ?_⟩
            rw [Hid, List.take_add_one, List.take_add_one, HT.out, ha, hb]
          case measure => simp [intOf]; omega
        · have HE : Hid (lcp A B = k) := lcp_end HT.out hka hkb (fun x y hx hy => by rw [ha] at hx; rw [hb] at hy; injection hx with e1; injection hy with e2; rw [← e1, ← e2]; exact hab)
          by_cases hn : a.1.toList = b.1.toList
          · have he : ¬ a.2 = b.2 := fun e => hab (step_ext hn e)
            clear hab
            go_wp2
            go_quiet (fail)
            go_wp2
            go_ret
            exact ⟨by rw [HE.out]; rfl, _, by first | rfl | rw [World.drewN_drewN]⟩
          · clear hab
            go_wp2
            go_quiet (fail)
            go_wp2
            go_ret
            exact ⟨by rw [HE.out]; rfl, _, by first | rfl | rw [World.drewN_drewN]⟩
      · have HE : Hid (lcp A B = k) := lcp_end HT.out hka hkb (fun x y hx hy => by have := (List.getElem?_eq_some_iff.1 hy).1; omega)
        have d2 : decide ((k : Int) < (B.length : Int)) = false := decide_eq_false (by omega)
        go_wp2
        go_quiet (fail)
        go_wp2
        go_ret
        exact ⟨by rw [HE.out]; rfl, _, by first | rfl | rw [World.drewN_drewN]⟩
    · have HE : Hid (lcp A B = k) := lcp_end HT.out hka hkb (fun x y hx hy => by have := (List.getElem?_eq_some_iff.1 hx).1; omega)
      have d1 : decide ((k : Int) < (A.length : Int)) = false := decide_eq_false (by omega)
      go_wp2
      go_quiet (fail)
      go_wp2
      go_ret
      exact ⟨by rw [HE.out]; rfl, _, by first | rfl | rw [World.drewN_drewN]⟩
end Go.Proofs.Qxb6602090a
