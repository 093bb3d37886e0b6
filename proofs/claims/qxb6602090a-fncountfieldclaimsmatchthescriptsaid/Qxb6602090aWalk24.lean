/-
  Seat b6602090a: countField (24).
-/
import Derived.Test.Qxb6602090aInv
namespace Go.Proofs.Qxb6602090a
open Go.RowKit Go.Maps

theorem slice_end (K p l : Nat) (w : World) : (Instr.slice 51 (.slice (some ⟨K, p, none⟩) l l) (some (.int .i64 (l : Int))) none none).run Try.prog w = .ok (.slice (some ⟨K, p, none⟩) 0 0) w := by
  have hsz : (sizeOf 59).run Try.prog w = .ok 2 w := by simp [go_sem]
  rw [run_slice_l w 51 (some ⟨K, p, none⟩) l l (by rw [elem51]; exact Try.underlying51) .i64 l (by omega) (by omega), elem51, hsz]
  simp [sliced]

theorem lcp_le (A B : List Step) : lcp A B ≤ A.length ∧ lcp A B ≤ B.length ∧ A.take (lcp A B) = B.take (lcp A B) := by
  induction A generalizing B with
  | nil => simp [lcp]
  | cons a l ih =>
    cases B with
    | nil => simp [lcp]
    | cons b t =>
      unfold lcp
      by_cases h : a = b
      · subst h
        obtain ⟨h1, h2, h3⟩ := ih t
        rw [if_pos rfl]
        refine ⟨by simp; omega, by simp; omega, ?_⟩
        rw [List.take_succ_cons, List.take_succ_cons, h3]
      · rw [if_neg h]; simp
theorem lcp_pos {A B : List Step} {a : Step} (hA : A[0]? = some a) (hB : B[0]? = some a) : 0 < lcp A B := by
  cases A with
  | nil => simp at hA
  | cons x l =>
    cases B with
    | nil => simp at hB
    | cons y t =>
      simp only [List.getElem?_cons_zero, Option.some.injEq] at hA hB
      unfold lcp
      rw [if_pos (hA.trans hB.symm)]
      omega

/-- below, over the tree. -/
theorem below_st {w : World} {T : Tree} {r c a : Nat} {da : Nd} {S : List Clm} {f : Key → Cl} {s : ByteArray} {e : Bool} (h : St w T r c S f) (ha : T a = some da) (hs : StepOk (s, e)) :
    ∃ o, (∀ y, o = some y ↔ Child T a (s, e) y) ∧ Calls Try.prog 27 #[.pointer (some ⟨a, 0, none⟩), .agg #[.string s, .bool e]] w fun r w' => r = .returned (ptrV o) ∧ Below w.heap.size w w' := by
  obtain ⟨g, hg, hc⟩ := h.rep.named a da ha
  refine ⟨_, fun y => ?_, below_any a _ _ _ _ c g _ s e hs.2 w (h.rep.cell a da ha) hg⟩
  cases e with
  | true =>
    have := hs.1 rfl
    subst this
    rw [if_pos rfl]
    exact h.rep.each a da ha y
  | false =>
    rw [if_neg (by simp)]
    exact hc s hs.2 y

/-- What the walk needs of the leaf. -/
def LeafPost (w : World) (T : Tree) (r c x : Nat) (S : List Clm) (m : Clm) (w' : World) : Prop :=
  ∃ T' dx, T' x = some dx ∧ dx.path = m.key ∧ w'.heap[x]? = some (.cells (nodeArr (edgeV dx) (ptrV dx.par) (.map dx.mp) (ptrV dx.each) dx.cl) 57 (0, 0)) ∧ St w' T' r (c + 1) S (pcl S m m.key.length) ∧ Ex w T w' T'

theorem leaf_st {w : World} {T : Tree} {r c a K : Nat} {da : Nd} {S : List Clm} {m : Clm} {j : Nat} {s : ByteArray} {e : Bool} (h : St w T r c S (pcl S m j)) (hc : c < 1000000000) (ha : T a = some da) (hp : da.path = m.key.take j) (hj : j < m.key.length)
    (hd : ∀ s ∈ m.key, StepOk s) (hst : m.key[j]? = some (s, e)) (hno : ∀ y, ¬ Child T a (s, e) y) (hK : KeyRow w K m.key) :
    Calls Try.prog 28 #[.pointer (some ⟨a, 0, none⟩), .pointer (some ⟨w.heap.size, 0, none⟩)] (w.alloc (.cells (nodeArr (.slice (some ⟨K, j * 2, none⟩) (m.key.length - j) (m.key.length - j)) (ptrV none) (.map none) (ptrV none) ⟨0, 0, 0, 0⟩) 57 (0, 0))) fun v w' =>
      v = .returned (.tuple #[]) ∧ LeafPost w T r c w.heap.size S m w' := by
  obtain ⟨g, hg, hgc⟩ := h.rep.named a da ha
  have hal := h.rep.lt ha
  have hso : StepOk (s, e) := hd _ (List.mem_of_getElem? hst)
  have hst2 := hK.steps (A := m.key) (o := 0) (fun i s hi => by rw [Nat.zero_add]; exact hi)
  obtain ⟨k0, k1⟩ := hst2 j (s, e) hst
  rw [Nat.zero_mul, Nat.zero_add] at k0 k1
  have hKl := hK.lt
  refine (hold_any a w.heap.size (by omega) _ _ da.mp da.each c g _ K (j * 2) (m.key.length - j) (m.key.length - j) (ptrV none) (.map none) (ptrV none) ⟨0, 0, 0, 0⟩ s e hso.2 _
    (by rw [Below.heap_alloc _ _ _ hal]; exact h.rep.cell a da ha) (newHeap w _) (hg.keep (fun q hq => Below.heap_alloc _ _ _ (by rw [hq] at hg; exact hg.lt))) hc (by omega)
    (by rw [old_cell _ _ _ _ hKl]; exact k0) (by rw [old_cell _ _ _ _ hKl]; exact k1)).mono ?_
  rintro v w' ⟨rfl, mo', hN, hmo, ha', hx', hF⟩
  refine ⟨rfl, ?_⟩
  have hF' : Fr (fun k => k = a ∨ da.mp = some k) w w' := (Fr.alloc _ w _).andThen hF (fun i hi hh => by
    rcases hh with hh | hh | hh
    · exact .inl hh
    · omega
    · exact .inr hh)
  have hmo' : mo' = da.mp ∨ (da.mp = none ∧ ∃ m, mo' = some m ∧ w.heap.size ≤ m) := by
    rcases hmo with hh | ⟨h1, q, h2, h3⟩
    · exact .inl hh
    · refine .inr ⟨h1, q, h2, ?_⟩
      simp at h3; omega
  obtain ⟨T', dx, h1, h2, h3, h4, h5, h6⟩ := h.leaf ha hp hj hd hst hno hgc hK (Nat.le_refl _) ha' hx' hN hmo' hF'
  exact ⟨T', dx, h1, h2, h4, h5, h6⟩

def SplPost (w : World) (T : Tree) (r c x : Nat) (S : List Clm) (m : Clm) (j s : Nat) (w' : World) : Prop :=
  ∃ T' dx, T' x = some dx ∧ dx.path = m.key.take (j + s) ∧ St w' T' r (c + 1) S (pcl S m j) ∧ Ex w T w' T' ∧ (∀ b d, T' b = some d → d.path <+: m.key → j < d.path.length → d.path.length ≤ j + s → d.path.length = j + s)

theorem split_st {w : World} {T : Tree} {r c P n s : Nat} {dP dn : Nd} {S : List Clm} {m : Clm} {j : Nat} (h : St w T r c S (pcl S m j)) (hc : c < 1000000000) (h0 : ∀ m ∈ S, m.place ≠ 0) (hP : T P = some dP) (hp : dP.path = m.key.take j) (hj : j + s ≤ m.key.length)
    (hn : T n = some dn) (hpar : dn.par = some P) (hs0 : 0 < s) (hs1 : s < dn.elen) (hmade : dn.path.take (dn.path.length - dn.elen + s) = m.key.take (j + s)) :
    Calls Try.prog 30 #[.pointer (some ⟨n, 0, none⟩), .int .i64 (s : Int)] w fun v w' => ∃ x, v = .returned (.pointer (some ⟨x, 0, none⟩)) ∧ SplPost w T r c x S m j s w' := by
  have hnP : n ≠ P := by rintro rfl; exact h.ok.ne_parent hn hpar
  have hnr : n ≠ r := by
    rintro rfl
    obtain ⟨d, h1, _, h3, _⟩ := h.ok.root
    rw [hn] at h1; injection h1 with h1; subst h1
    rw [h3] at hpar; cases hpar
  obtain ⟨p, dp, q1, q2, q3, q4, q5⟩ := h.ok.par n dn hn hnr
  obtain ⟨⟨s0, e0⟩, hst0⟩ : ∃ st, dn.path[dn.path.length - dn.elen]? = some st := ⟨_, List.getElem?_eq_getElem (by omega)⟩
  obtain ⟨⟨s1, e1⟩, hst1⟩ : ∃ st, dn.path[dn.path.length - dn.elen + s]? = some st := ⟨_, List.getElem?_eq_getElem (by omega)⟩
  have hso0 : StepOk (s0, e0) := h.ok.dom n dn hn _ (List.mem_of_getElem? hst0)
  have hso1 : StepOk (s1, e1) := h.ok.dom n dn hn _ (List.mem_of_getElem? hst1)
  obtain ⟨g, hg, hgc⟩ := h.rep.named P dP hP
  obtain ⟨ks, hK, k1, k2, k3⟩ := h.rep.edge n dn hn q3
  have hcell := h.rep.cell n dn hn
  have he : edgeV dn = .slice (some ⟨dn.K, dn.o * 2, none⟩) dn.elen dn.cap := by unfold edgeV; rw [if_neg (by omega)]
  rw [he, hpar] at hcell
  have hsteps := hK.steps (A := dn.path.drop (dn.path.length - dn.elen)) (o := dn.o) (fun i st hi => by
    have hil : i < dn.elen := by
      have := (List.getElem?_eq_some_iff.1 hi).1
      rw [List.length_drop] at this; omega
    rw [← k3, List.getElem?_take_of_lt hil, List.getElem?_drop] at hi
    exact hi)
  obtain ⟨a0, a1⟩ := hsteps 0 (s0, e0) (by rw [List.getElem?_drop]; exact hst0)
  obtain ⟨b0, b1⟩ := hsteps s (s1, e1) (by rw [List.getElem?_drop]; exact hst1)
  rw [Nat.zero_mul, Nat.add_zero] at a0 a1
  refine (split_any n P hnP _ _ dP.mp dP.each c g dP.cl dn.K (dn.o * 2) dn.elen dn.cap s (.map dn.mp) (ptrV dn.each) dn.cl s0 s1 e0 e1 w (h.rep.cell P dP hP) hg hc hcell hs0 hs1 (by omega) a0 a1 b0 b1 hso0.2 hso1.2
    (hK.ne (h.rep.cell P dP hP)) (hK.ne (h.rep.cell n dn hn)) (fun hm => ?_) (fun hm => ?_)).mono ?_
  · rw [hm] at hg; exact hK.neMap hg rfl
  · rw [hm] at hg; exact hg.ne (h.rep.cell n dn hn) rfl
  · rintro v w' ⟨x, rfl, hpost⟩
    refine ⟨x, rfl, h.split h0 hP hp hj hn hpar hs0 hs1 hmade hst0 hst1 hgc hpost⟩

/-- The loop's invariant: at step j of the key the node a is reached. -/
structure Lp (w0 : World) (T0 : Tree) (r c0 : Nat) (S : List Clm) (m : Clm) (K : Nat) (w : World) (T : Tree) (c j a : Nat) (da : Nd) : Prop where
  st : St w T r c S (pcl S m j)
  ha : T a = some da
  path : da.path = m.key.take j
  row : KeyRow w K m.key
  ex : Ex w0 T0 w T
  bound : c ≤ c0 + j

/-- What countField leaves. -/
def CountPost (w : World) (T : Tree) (r c : Nat) (S : List Clm) (m : Clm) (w' : World) (a : Nat) : Prop :=
  ∃ T' c' da, St w' T' r c' (S ++ [m]) (claimsOf (S ++ [m])) ∧ T' a = some da ∧ da.path = m.key ∧ Ex w T w' T' ∧ c' ≤ c + m.key.length + 1

/-- The last count. -/
theorem count_end {w0 w : World} {T0 T : Tree} {r c0 c a : Nat} {da : Nd} {S : List Clm} {m : Clm} (h : St w T r c S (pcl S m m.key.length)) (ha : T a = some da) (hp : da.path = m.key) (hE : Ex w0 T0 w T) (hc : c ≤ c0 + m.key.length + 1) :
    Calls Try.prog 31 #[.pointer (some ⟨a, 4, none⟩), .int .i64 m.place, .bool m.deny, .bool false] w fun v w' => v = .returned (.tuple #[]) ∧ CountPost w0 T0 r c0 S m w' a := by
  refine (count_blk a _ _ _ _ da.cl m.place m.deny false w (h.rep.cell a da ha)).mono ?_
  rintro v w' ⟨rfl, h1, _, h3⟩
  obtain ⟨h4, h5⟩ := h.finish ha hp h1 h3
  obtain ⟨u, k1⟩ := turn_has (da.cl.count m.place m.deny false) ha ha
  exact ⟨rfl, _, c, _, h4, k1, hp, hE.trans h5, hc⟩
/-- .. and one on the way. -/
theorem count_pass {w0 w : World} {T0 T : Tree} {r c0 c x K j j' : Nat} {dx : Nd} {S : List Clm} {m : Clm} (h : St w T r c S (pcl S m j)) (hj : j' < m.key.length) (hjj : j < j') (hx : T x = some dx) (hp : dx.path = m.key.take j') (hb : ∀ b d, T b = some d → d.path <+: m.key → j < d.path.length → d.path.length ≤ j' → d.path.length = j')
    (hE : Ex w0 T0 w T) (hc : c ≤ c0 + j') (hK : KeyRow w K m.key) :
    Calls Try.prog 31 #[.pointer (some ⟨x, 4, none⟩), .int .i64 m.place, .bool m.deny, .bool true] w fun v w' => v = .returned (.tuple #[]) ∧ ∃ T' c' dx', Lp w0 T0 r c0 S m K w' T' c' j' x dx' := by
  refine (count_blk x _ _ _ _ dx.cl m.place m.deny true w (h.rep.cell x dx hx)).mono ?_
  rintro v w' ⟨rfl, h1, _, h3⟩
  obtain ⟨h4, h5⟩ := h.pass hj hjj hx hp hb h1 h3
  obtain ⟨u, k1⟩ := turn_has (dx.cl.count m.place m.deny true) hx hx
  exact ⟨rfl, _, c, _, h4, k1, hp, hK.ex h h5, hE.trans h5, hc⟩
end Go.Proofs.Qxb6602090a
