/-
  Seat b6602090a: the rows' argument opened: a slice of claims, each with its key, a slice of steps.
-/
import Derived.Test.Qxb6602090aRun
import Derived.Deep.SlicePairs
import Derived.Deep.Strs
namespace Go.Proofs.Qxb6602090a
open Go.RowKit Go.Maps Go.Deep Go.ChangeShapes Go.WideShapes

instance : Inhabited Clm := ⟨⟨[], 0, false⟩⟩
theorem under49 : ∃ f0 f1 : Field, Try.prog.underlying 49 = some (.struct #[f0, f1]) ∧ f0.offset = 0 ∧ f1.offset = 1 ∧ f0.type = 9 ∧ f1.type = 4 := ⟨_, _, Try.underlying49, rfl, rfl, rfl, rfl⟩
theorem under35 : ∃ f0 f1 f2 : Field, Try.prog.underlying 35 = some (.struct #[f0, f1, f2]) ∧ f0.offset = 0 ∧ f1.offset = 1 ∧ f2.offset = 2 ∧ f0.type = 33 ∧ f1.type = 3 ∧ f2.type = 4 := ⟨_, _, _, Try.underlying35, rfl, rfl, rfl, rfl, rfl, rfl⟩
theorem cells35 : Try.prog.cellsOf 35 = 3 := by kernel_rfl
theorem cells33 : Try.prog.cellsOf 33 = 1 := by kernel_rfl
theorem cells3 : Try.prog.cellsOf 3 = 1 := by kernel_rfl
theorem cells4 : Try.prog.cellsOf 4 = 1 := by kernel_rfl
theorem cells49 : Try.prog.cellsOf 49 = 2 := by kernel_rfl
theorem cells9 : Try.prog.cellsOf 9 = 1 := by kernel_rfl
theorem under9 : Try.prog.underlying 9 = some .string := by kernel_rfl
theorem under4 : Try.prog.underlying 4 = some .bool := by kernel_rfl
theorem under3 : Try.prog.underlying 3 = some (.int .i64) := by kernel_rfl

section
variable {H : Type} {enc : TypeId × Value → H} {w : World} {base : Nat} {spare : Nat → Bool} {held : Bool}

theorem open_key {fuel : Nat} {kv : Value} {x : DataW H × List MemPlace} (h : DataW.trod enc Try.prog w base spare held fuel 33 [kv] = some x) : ∃ key, KeyArg w kv key := by
  obtain ⟨f0, f1, hu, o0, o1, t0, t1⟩ := under49
  rcases open_slice_pairs under33 hu cells49 o0 o1 (by rw [t0]; exact cells9) (by rw [t1]; exact cells4) h with ⟨hcs, _⟩ | ⟨a, len, cap, m, n, V0, V1, D0, D1, P0, P1, hcs, _, hl, _, hm, _, hx⟩
  · injection hcs with hcs _
    exact ⟨[], none, 0, hcs, fun _ => rfl, fun hh => by simp at hh⟩
  · injection hcs with hcs _
    have hlm : len ≤ m := by rw [hm]; split <;> omega
    obtain ⟨f, hf⟩ := choose_lt (α := Step) (n := len) (p := fun i s => w.cell? (a.add (i * 2)) = some (.string s.1) ∧ w.cell? (a.add (i * 2 + 1)) = some (.bool s.2)) (fun i hi => by
      obtain ⟨g0, g1, g2, g3⟩ := hx i (by omega)
      rw [t0] at g2
      rw [t1] at g3
      obtain ⟨s, e1, _⟩ := DataW.trod_string under9 g2
      obtain ⟨b, e2, _⟩ := DataW.trod_bool under4 g3
      injection e1 with e1 _
      injection e2 with e2 _
      exact ⟨(s, b), by rw [g0, e1], by rw [g1, e2]⟩)
    refine ⟨(List.range len).map f, some a, cap, by rw [hcs]; simp, fun hh => (by cases hh), fun _ => ⟨a, rfl, fun i s hi => ?_⟩⟩
    rw [List.getElem?_map] at hi
    obtain ⟨j, hj, rfl⟩ := Option.map_eq_some_iff.1 hi
    obtain ⟨hlt, hji⟩ := List.getElem?_eq_some_iff.1 hj
    rw [List.getElem_range] at hji
    subst hji
    exact hf i (by simpa using hlt)

theorem open_script {fuel : Nat} {v : Value} {x : DataW H × List MemPlace} (h : DataW.trod enc Try.prog w base spare held fuel 22 [v] = some x) : ∃ S, ScrArg w v S ∧ S.length ≤ 9223372036854775807 := by
  obtain ⟨f0, f1, f2, hu, o0, o1, o2, t0, t1, t2⟩ := under35
  rcases open_slice under22 h with ⟨hcs, _⟩ | ⟨a, len, cap, m, n, D, Pl, hcs, _, hl, hmax, hm, _, hx⟩
  · injection hcs with hcs _
    exact ⟨[], ⟨none, 0, hcs, fun _ => rfl, fun hh => by simp at hh⟩, by simp⟩
  · injection hcs with hcs _
    have hlm : len ≤ m := by rw [hm]; split <;> omega
    obtain ⟨f, hf⟩ := choose_lt (α := Clm) (n := len) (p := fun i m => (∃ kv, w.cell? (a.add (i * 3)) = some kv ∧ KeyArg w kv m.key) ∧ w.cell? (a.add (i * 3 + 1)) = some (.int .i64 m.place) ∧ w.cell? (a.add (i * 3 + 2)) = some (.bool m.deny)) (fun i hi => by
      obtain ⟨cs', h1, h2⟩ := hx i (by omega)
      rw [cells35] at h1
      obtain ⟨_, hlen, hcell⟩ := World.cells?_some h1
      obtain ⟨y0, y1, y2, k, _, _, g0, g1, g2⟩ := trod_struct3 hu h2
      match cs', hlen with
      | [v0, v1, v2], _ =>
        rw [t0, o0, cells33] at g0
        rw [t1, o1, cells3] at g1
        rw [t2, o2, cells4] at g2
        simp only [List.drop_zero, List.drop_succ_cons, List.take_succ_cons, List.take_zero] at g0 g1 g2
        have e0 := hcell 0 (by omega)
        have e1 := hcell 1 (by omega)
        have e2 := hcell 2 (by omega)
        rw [add_add] at e0 e1 e2
        obtain ⟨key, hk⟩ := open_key g0
        obtain ⟨p, q1, _⟩ := DataW.trod_int under3 g1
        obtain ⟨b, q2, _⟩ := DataW.trod_bool under4 g2
        injection q1 with q1 _
        injection q2 with q2 _
        exact ⟨⟨key, p, b⟩, ⟨v0, by simpa using e0, hk⟩, by rw [← q1]; simpa using e1, by rw [← q2]; simpa using e2⟩)
    refine ⟨(List.range len).map f, ⟨some a, cap, by rw [hcs]; simp, fun hh => (by cases hh), fun _ => ⟨a, rfl, fun i m' hi => ?_⟩⟩, by simp; unfold maxLen at hmax; omega⟩
    rw [List.getElem?_map] at hi
    obtain ⟨j, hj, rfl⟩ := Option.map_eq_some_iff.1 hi
    obtain ⟨hlt, hji⟩ := List.getElem?_eq_some_iff.1 hj
    rw [List.getElem_range] at hji
    subst hji
    exact hf i (by simpa using hlt)
end
end Go.Proofs.Qxb6602090a
