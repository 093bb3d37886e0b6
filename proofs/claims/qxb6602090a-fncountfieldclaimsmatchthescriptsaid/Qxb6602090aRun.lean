/-
  Seat b6602090a: what the two laws' loops carry.
-/
import Derived.Test.Qxb6602090aSame
import Derived.Lib.Builder
namespace Go.Proofs.Qxb6602090a
open Go.RowKit Go.Maps

theorem info26 : (Try.prog.info? 26).map (fun i => (i.zero, i.size, i.bytes)) = some (some (.pointer none), 1, 8) := by kernel_rfl
theorem info3 : (Try.prog.info? 3).map (fun i => (i.zero, i.size, i.bytes)) = some (some (.int .i64 0), 1, 8) := by kernel_rfl
theorem under28 : Try.prog.underlying 28 = some (.slice 26) := by kernel_rfl
theorem under41 : Try.prog.underlying 41 = some (.slice 3) := by kernel_rfl

theorem under26 : Try.prog.underlying 26 = some (.pointer 57) := by kernel_rfl
theorem info57 : (Try.prog.info? 57).map (fun i => i.size) = some 8 := by kernel_rfl
theorem neq_same (a : Addr) (w : World) : (binOp .neq 26 (.pointer (some a)) (.pointer (some a))).run Try.prog w = .ok (.bool false) w := by
  obtain ⟨j, hj, _⟩ := Option.map_eq_some_iff.1 info57
  exact Lib.run_neq_ptr_same w a under26 hj
theorem eql_same (a : Addr) (w : World) : (binOp .eql 26 (.pointer (some a)) (.pointer (some a))).run Try.prog w = .ok (.bool true) w := by
  obtain ⟨j, hj, _⟩ := Option.map_eq_some_iff.1 info57
  exact run_eql_ptr_same w a under26 hj
theorem eql_other {a b : Addr} {w : World} {ca cb : Array Value} {ta tb : TypeId} (hne : a ≠ b) (ha : w.heap[a.block]? = some (.cells ca ta (0, 0))) (hb : w.heap[b.block]? = some (.cells cb tb (0, 0))) : (binOp .eql 26 (.pointer (some a)) (.pointer (some b))).run Try.prog w = .ok (.bool false) w := by
  obtain ⟨j, hj, hs⟩ := Option.map_eq_some_iff.1 info57
  exact run_eql_ptr_other w under26 hj (by omega) hne ha hb

/-- A store into a row that is none of the tree's keeps the tree. -/
theorem St.keepRow {w w' : World} {T : Tree} {r c N : Nat} {S : List Clm} {f : Key → Cl} {arr : Array Value} {t : TypeId} (h : St w T r c S f) (hN : w.heap[N]? = some (.cells arr t (0, 0))) (ht : t ≠ 57) (ht2 : t ≠ 59) (hF : Fr (· = N) w w') : St w' T r c S f := by
  have hk : ∀ b, b < w.heap.size → b ≠ N → w'.heap[b]? = w.heap[b]? := fun b hb hne => hF.block b hb hne
  refine ⟨h.ok, ⟨?_, ?_, ?_, h.rep.each, h.rep.apart⟩, h.cov, h.cl⟩
  · intro b d hb
    rw [hk b (h.rep.lt hb) (fun e => ?_)]
    · exact h.rep.cell b d hb
    · subst e
      exact h.rep.not_foot hN ht (.inl ⟨d, hb⟩)
  · intro b d hb he
    obtain ⟨ks, h1, h2⟩ := h.rep.edge b d hb he
    refine ⟨ks, h1.keep (hk _ h1.lt (fun e => ?_)), h2⟩
    obtain ⟨ar, h3, _⟩ := h1
    rw [e, hN] at h3
    injection h3 with h3
    injection h3 with _ h3
    exact ht2 h3
  · intro b d hb
    obtain ⟨g, hg, h2⟩ := h.rep.named b d hb
    refine ⟨g, hg.keep (fun m hm => hk m ?_ (fun e => ?_)), h2⟩
    · rw [hm] at hg; exact hg.lt
    · subst e
      exact h.rep.not_foot hN ht (.inr ⟨b, d, hb, hm⟩)

/-- The nodes that the first k calls gave. -/
def NodesAt (w : World) (T : Tree) (N n : Nat) (S : List Clm) (k : Nat) : Prop :=
  ∃ arr : Array Value, w.heap[N]? = some (.cells arr 26 (0, 0)) ∧ arr.size = n ∧ ∀ i m, i < k → S[i]? = some m → ∃ a da, arr[i]? = some (.pointer (some ⟨a, 0, none⟩)) ∧ T a = some da ∧ da.path = m.key
/-- The loops' state: the claims R are counted; the first k nodes lie in row N. -/
def LS (w1 : World) (r N n : Nat) (S R : List Clm) (k : Nat) (w : World) : Prop :=
  ∃ T c, St w T r c R (claimsOf R) ∧ Below w1.heap.size w1 w ∧ (∀ i, Foot T i → w1.heap.size ≤ i) ∧ c ≤ R.length * 65537 ∧ NodesAt w T N n S k
/-- .. and a is the node of m. -/
def LSA (w1 : World) (r N n : Nat) (S R : List Clm) (k : Nat) (m : Clm) (a : Nat) (w : World) : Prop :=
  ∃ T c da, St w T r c R (claimsOf R) ∧ Below w1.heap.size w1 w ∧ (∀ i, Foot T i → w1.heap.size ≤ i) ∧ c ≤ R.length * 65537 ∧ NodesAt w T N n S k ∧ T a = some da ∧ da.path = m.key
/-- Rows that are none of the tree's stay. -/
def Rows2 (w w' : World) : Prop := ∀ (b : Nat) (arr : Array Value) (t : TypeId), w.heap[b]? = some (.cells arr t (0, 0)) → t ≠ 57 → w'.heap[b]? = w.heap[b]?

theorem LS.quiet {w1 : World} {r N n : Nat} {S R : List Clm} {k : Nat} {w w' : World} (h : LS w1 r N n S R k w) (hw : Fr (fun _ => False) w w') : LS w1 r N n S R k w' := by
  obtain ⟨T, c, h1, h2, h3, h4, arr, h5, h6⟩ := h
  exact ⟨T, c, h1.quiet hw, h2.trans ⟨hw.os, hw.tape, hw.output, hw.size, fun i hi => hw.block i (Nat.lt_of_lt_of_le hi h2.size) (fun f => f)⟩, h3, h4, arr, (hw.block N (blk_lt h5) (fun f => f)).trans h5, h6⟩

/-- The call that counts m. -/
theorem LS.count {w1 : World} {r N n l Nm Eb : Nat} {S R : List Clm} {k : Nat} {m : Clm} {w : World} (h : LS w1 r N n S R k w) (hl : l = m.key.length) (hR : R.length ≤ 10000) (h0 : ∀ m ∈ R, m.place ≠ 0) (hd : ∀ s ∈ m.key, StepOk s) (hlen : l ≤ 65536) (hN : Fills w Nm 9 l (nameAt m.key) l) (hE : Fills w Eb 4 l (eachAt m.key) l) :
    Calls Try.prog 13 #[.pointer (some ⟨r, 0, none⟩), .slice (some ⟨Nm, 0, none⟩) l l, .slice (some ⟨Eb, 0, none⟩) l l, .int .i64 m.place, .bool m.deny] w fun v w' => ∃ a, v = .returned (.pointer (some ⟨a, 0, none⟩)) ∧ LSA w1 r N n S (R ++ [m]) k m a w' ∧ Rows2 w w' := by
  obtain ⟨T, c, h1, h2, h3, h4, arr, h5, h6, h7⟩ := h
  refine (zzCount_any w T r c Nm Eb l R m hl h1 (by omega) h0 hd hlen hN hE).mono ?_
  rintro v w' ⟨a, rfl, T', c', da, k1, k2, k3, k4, k5⟩
  have hrows : Rows2 w w' := fun b ar t hb ht => k4.fr.block b (blk_lt hb) (h1.rep.not_foot hb ht)
  refine ⟨a, rfl, ⟨T', c', da, k1, ?_, ?_, ?_, ⟨arr, (hrows N arr 26 h5 (by decide)).trans h5, h6, ?_⟩, k2, k3⟩, hrows⟩
  · refine ⟨k4.fr.os.trans h2.os, k4.fr.tape.trans h2.tape, k4.fr.output.trans h2.output, Nat.le_trans h2.size k4.fr.size, fun i hi => ?_⟩
    rw [k4.fr.block i (Nat.lt_of_lt_of_le hi h2.size) (fun hf => by have := h3 i hf; omega), h2.block i hi]
  · intro i hf
    rcases Nat.lt_or_ge i w.heap.size with hlt | hge
    · exact h3 i (k4.old i hlt hf)
    · exact Nat.le_trans h2.size hge
  · rw [List.length_append, List.length_singleton]; omega
  · intro i m' hi hm'
    obtain ⟨a', da', g1, g2, g3⟩ := h7 i m' hi hm'
    obtain ⟨d', g4, g5⟩ := k4.keep a' da' g2
    exact ⟨a', d', g1, g4, g5.trans g3⟩

/-- The node is kept in the row. -/
theorem LSA.put {w1 : World} {r N n : Nat} {S R : List Clm} {k : Nat} {m : Clm} {a : Nat} {w : World} (h : LSA w1 r N n S R k m a w) (hk : k < n) (hm : S[k]? = some m) (hN : w1.heap.size ≤ N) :
    LS w1 r N n S R (k + 1) (w.setCell ⟨N, k, none⟩ (.pointer (some ⟨a, 0, none⟩))) := by
  obtain ⟨T, c, da, h1, h2, h3, h4, ⟨arr, h5, h6, h7⟩, h8, h9⟩ := h
  refine ⟨T, c, h1.keepRow h5 (by decide) (by decide) (Fr.setCell w ⟨N, k, none⟩ _), h2.setCell (p := ⟨N, k, none⟩) hN _, h3, h4, _, blk_set _ h5, by rw [Array.size_setIfInBounds]; exact h6, fun i m' hi hm' => ?_⟩
  rw [Array.getElem?_setIfInBounds]
  by_cases e : k = i
  · subst e
    rw [hm] at hm'; injection hm' with hm'; subst hm'
    rw [if_pos rfl, if_pos (by omega)]
    exact ⟨a, da, rfl, h8, h9⟩
  · rw [if_neg e]
    exact h7 i m' (by omega) hm'
theorem LSA.has {w1 : World} {r N n : Nat} {S R : List Clm} {k : Nat} {m : Clm} {a : Nat} {w : World} (h : LSA w1 r N n S R k m a w) {i : Nat} (hi : i < n) : (∃ v, w.cell? ⟨N, i, none⟩ = some v) ∧ w.frozen? ⟨N, i, none⟩ = false := by
  obtain ⟨T, c, da, h1, h2, h3, h4, ⟨arr, h5, h6, h7⟩, h8, h9⟩ := h
  exact ⟨⟨_, by rw [blk_cell h5]; exact Array.getElem?_eq_getElem (by omega)⟩, blk_frozen h5⟩
theorem LSA.below {w1 : World} {r N n : Nat} {S R : List Clm} {k : Nat} {m : Clm} {a : Nat} {w : World} (h : LSA w1 r N n S R k m a w) : Below w1.heap.size w1 w := by
  obtain ⟨T, c, da, h1, h2, _⟩ := h; exact h2
theorem LSA.forget {w1 : World} {r N n : Nat} {S R : List Clm} {k : Nat} {m : Clm} {a : Nat} {w : World} (h : LSA w1 r N n S R k m a w) : LS w1 r N n S R k w := by
  obtain ⟨T, c, da, h1, h2, h3, h4, h5, _⟩ := h; exact ⟨T, c, h1, h2, h3, h4, h5⟩
/-- The node of an equal key is the same node. -/
theorem LSA.same {w1 : World} {r N n : Nat} {S R : List Clm} {k i : Nat} {m : Clm} {a : Nat} {w : World} (h : LSA w1 r N n S R k m a w) (hi : i < k) (hm : S[i]? = some m) : w.cell? ⟨N, i, none⟩ = some (.pointer (some ⟨a, 0, none⟩)) := by
  obtain ⟨T, c, da, h1, h2, h3, h4, ⟨arr, h5, h6, h7⟩, h8, h9⟩ := h
  obtain ⟨a', da', g1, g2, g3⟩ := h7 i m hi hm
  have : a' = a := h1.ok.inj a' da' a da g2 h8 (g3.trans h9.symm)
  subst this
  rw [blk_cell h5]; exact g1
theorem LS.below {w1 : World} {r N n : Nat} {S R : List Clm} {k : Nat} {w : World} (h : LS w1 r N n S R k w) : Below w1.heap.size w1 w := by
  obtain ⟨T, c, h1, h2, _⟩ := h; exact h2
theorem LS.has {w1 : World} {r N n : Nat} {S R : List Clm} {k : Nat} {w : World} (h : LS w1 r N n S R k w) {i : Nat} (hi : i < n) : (∃ v, w.cell? ⟨N, i, none⟩ = some v) ∧ w.frozen? ⟨N, i, none⟩ = false := by
  obtain ⟨T, c, h1, h2, h3, h4, arr, h5, h6, h7⟩ := h
  exact ⟨⟨_, by rw [blk_cell h5]; exact Array.getElem?_eq_getElem (by omega)⟩, blk_frozen h5⟩
/-- The i-th node, and its cells. -/
theorem LS.node {w1 : World} {r N n : Nat} {S R : List Clm} {k i : Nat} {m : Clm} {w : World} (h : LS w1 r N n S R k w) (hi : i < k) (hm : S[i]? = some m) :
    ∃ a e ab mp ch, w.cell? ⟨N, i, none⟩ = some (.pointer (some ⟨a, 0, none⟩)) ∧ w.heap[a]? = some (.cells (nodeArr e ab mp ch (claimsOf R m.key)) 57 (0, 0)) ∧ (m.key = [] ↔ a = r) := by
  obtain ⟨T, c, h1, h2, h3, h4, arr, h5, h6, h7⟩ := h
  obtain ⟨a, da, g1, g2, g3⟩ := h7 i m hi hm
  obtain ⟨dr, q1, q2, _⟩ := h1.ok.root
  refine ⟨a, _, _, _, _, by rw [blk_cell h5]; exact g1, by rw [← g3, ← h1.cl a da g2]; exact h1.rep.cell a da g2, fun e => ?_, fun e => ?_⟩
  · exact h1.ok.inj a da r dr g2 q1 (by rw [g3, e, q2])
  · subst e
    rw [g2] at q1; injection q1 with q1; subst q1
    rw [← g3]; exact q2
/-- Two of the nodes are the same where their keys are. -/
theorem LS.eq {w1 : World} {r N n : Nat} {S R : List Clm} {k i j a b : Nat} {m m' : Clm} {w : World} (h : LS w1 r N n S R k w) (hi : i < k) (hm : S[i]? = some m) (hj : j < k) (hm' : S[j]? = some m')
    (ha : w.cell? ⟨N, i, none⟩ = some (.pointer (some ⟨a, 0, none⟩))) (hb : w.cell? ⟨N, j, none⟩ = some (.pointer (some ⟨b, 0, none⟩))) : a = b ↔ m.key = m'.key := by
  obtain ⟨T, c, h1, h2, h3, h4, arr, h5, h6, h7⟩ := h
  obtain ⟨a1, da, g1, g2, g3⟩ := h7 i m hi hm
  obtain ⟨b1, db, k1, k2, k3⟩ := h7 j m' hj hm'
  rw [blk_cell h5, g1] at ha
  rw [blk_cell h5, k1] at hb
  injection ha with ha; injection ha with ha; injection ha with ha; injection ha with ha
  injection hb with hb; injection hb with hb; injection hb with hb; injection hb with hb
  subst ha; subst hb
  constructor
  · rintro rfl
    rw [g2] at k2; injection k2 with k2; subst k2
    rw [← g3, k3]
  · intro e
    exact h1.ok.inj a1 da b1 db g2 k2 (by rw [g3, k3, e])
/-- A store into a row of another kind. -/
theorem LS.keepRow {w1 : World} {r N n : Nat} {S R : List Clm} {k M : Nat} {w w' : World} {arr : Array Value} (h : LS w1 r N n S R k w) (hM : w.heap[M]? = some (.cells arr 3 (0, 0))) (hw1 : w1.heap.size ≤ M) (hF : Fr (· = M) w w') : LS w1 r N n S R k w' := by
  obtain ⟨T, c, h1, h2, h3, h4, ar, h5, h6⟩ := h
  have hne : N ≠ M := by
    rintro rfl
    rw [hM] at h5; injection h5 with h5; injection h5 with _ h5; cases h5
  exact ⟨T, c, h1.keepRow hM (by decide) (by decide) hF, ⟨hF.os.trans h2.os, hF.tape.trans h2.tape, hF.output.trans h2.output, Nat.le_trans h2.size hF.size, fun i hi => (hF.block i (Nat.lt_of_lt_of_le hi h2.size) (by omega)).trans (h2.block i hi)⟩, h3, h4, ar, (hF.block N (blk_lt h5) hne).trans h5, h6⟩
/-- The claims counted are the same set. -/
theorem LS.cong {w1 : World} {r N n : Nat} {S R R' : List Clm} {k : Nat} {w : World} (h : LS w1 r N n S R k w) (h0 : R = R') : LS w1 r N n S R' k w := by rw [← h0]; exact h

/-- The start: the root, and the row made. -/
theorem LS.start (w1 : World) (n : Nat) (S : List Clm) (A : Array Value) (hA : A.size = n) :
    LS w1 w1.heap.size (w1.heap.size + 1) n S [] 0 ((w1.alloc (.cells (nodeArr (.slice none 0 0) (.pointer none) (.map none) (.pointer none) ⟨0, 0, 0, 0⟩) 57)).alloc (.cells A 26)) := by
  refine ⟨rootT w1.heap.size, 0, (root_st w1).quiet (Fr.alloc _ _ _), by go_grown, ?_, by omega, A, ?_, hA, fun i m hi => by omega⟩
  · rintro i (⟨d, hd⟩ | ⟨b, d, hd, hm⟩)
    · rw [(root_get hd).1]; exact Nat.le_refl _
    · rw [(root_get hd).2] at hm; cases hm
  · have := newHeap (w1.alloc (.cells (nodeArr (.slice none 0 0) (.pointer none) (.map none) (.pointer none) ⟨0, 0, 0, 0⟩) 57)) (.cells A 26)
    simpa using this

/-- The copy of the script, as the loops read it. -/
def ScrC (w1 : World) (ad : Option Addr) (n : Nat) (S : List Clm) : Prop :=
  0 < n → ∃ b, ad = some ⟨b, 0, none⟩ ∧ ∀ k m, S[k]? = some m → ∃ kv, w1.cell? ⟨b, k * 3, none⟩ = some kv ∧ KeyV w1 kv m.key ∧ w1.cell? ⟨b, k * 3 + 1, none⟩ = some (.int .i64 m.place) ∧ w1.cell? ⟨b, k * 3 + 2, none⟩ = some (.bool m.deny)
theorem ScrV.open {w1 : World} {v : Value} {S : List Clm} (h : ScrV w1 v S) : ∃ ad cp, v = .slice ad S.length cp ∧ ScrC w1 ad S.length S := by
  rcases h with ⟨rfl, rfl⟩ | ⟨b, rfl, arr, h1, h2, h3⟩
  · exact ⟨none, 0, rfl, fun hh => by simp at hh⟩
  · refine ⟨_, _, rfl, fun _ => ⟨b, rfl, fun k m hm => ?_⟩⟩
    obtain ⟨⟨kv, k1, k2⟩, k3, k4⟩ := h3 k m (List.getElem?_eq_some_iff.1 hm).1 hm
    exact ⟨kv, by rw [blk_cell h1]; exact k1, k2.val, by rw [blk_cell h1]; exact k3, by rw [blk_cell h1]; exact k4⟩

/-- What is known of every claim of a script that passes the gates. -/
def Good (S : List Clm) : Prop := ∀ m ∈ S, m.place ≠ 0 ∧ m.key.length ≤ 65536 ∧ ∀ s ∈ m.key, StepOk s
theorem good_of {S : List Clm} (hF : FitS S S.length) (hD : DomS S S.length) : Good S := by
  intro m hm
  obtain ⟨i, hi⟩ := List.mem_iff_getElem?.1 hm
  have hlt := (List.getElem?_eq_some_iff.1 hi).1
  obtain ⟨f1, f2⟩ := hF i m hlt hi
  obtain ⟨d1, d2⟩ := hD i m hlt hi
  exact ⟨by omega, f1, fun s hs => ⟨d2 s hs, by have := f2 s hs; unfold maxLen; omega⟩⟩
end Go.Proofs.Qxb6602090a
