/-
  Seat b6602090a: the tree grows: a new leaf; an edge is split; claims turn.
-/
import Derived.Test.Qxb6602090aTrie
namespace Go.Proofs.Qxb6602090a
open Go.RowKit Go.Maps

theorem Ok.ne_parent {T : Tree} {r : Nat} (h : Ok T r) {b : Nat} {d : Nd} (hb : T b = some d) : d.par ≠ some b := by
  intro e
  by_cases hr : b = r
  · subst hr
    obtain ⟨dr, h1, _, h3, _⟩ := h.root
    rw [hb] at h1; injection h1 with h1; subst h1
    rw [h3] at e; cases e
  · obtain ⟨p, dp, h1, h2, h3, h4, h5⟩ := h.par b d hb hr
    rw [e] at h1; injection h1 with h1; subst h1
    rw [hb] at h2; injection h2 with h2; subst h2
    have := congrArg List.length h5
    rw [List.length_take] at this
    omega
theorem Ok.has_parent {T : Tree} {r : Nat} (h : Ok T r) {b p : Nat} {d : Nd} (hb : T b = some d) (hp : d.par = some p) : ∃ dp, T p = some dp := by
  by_cases hr : b = r
  · subst hr
    obtain ⟨dr, h1, _, h3, _⟩ := h.root
    rw [hb] at h1; injection h1 with h1; subst h1
    rw [h3] at hp; cases hp
  · obtain ⟨q, dq, h1, h2, _⟩ := h.par b d hb hr
    rw [hp] at h1; injection h1 with h1; subst h1
    exact ⟨dq, h2⟩

/-! ### A new leaf -/
/-- The tree with the leaf x below a: a's map and child at [*] as they then are. -/
def leafT (T : Tree) (a x : Nat) (da dx : Nd) (mo' co' : Option Nat) : Tree := upd (upd T a { da with mp := mo', each := co' }) x dx

theorem leaf_get {T : Tree} {a x : Nat} {da dx : Nd} {mo' co' : Option Nat} (ha : T a = some da) (hax : a ≠ x) {k : Nat} {d : Nd} (h : leafT T a x da dx mo' co' k = some d) :
    (k = x ∧ d = dx) ∨ (k = a ∧ d = { da with mp := mo', each := co' }) ∨ (k ≠ x ∧ k ≠ a ∧ T k = some d) := by
  unfold leafT at h
  by_cases h1 : k = x
  · subst h1; rw [upd_same] at h; injection h with h; exact .inl ⟨rfl, h.symm⟩
  · rw [upd_other _ _ h1] at h
    by_cases h2 : k = a
    · subst h2; rw [upd_same] at h; injection h with h; exact .inr (.inl ⟨rfl, h.symm⟩)
    · rw [upd_other _ _ h2] at h; exact .inr (.inr ⟨h1, h2, h⟩)
/-- .. as old nodes: path, parent and edge are as they were. -/
theorem leaf_old {T : Tree} {a x : Nat} {da dx : Nd} {mo' co' : Option Nat} (ha : T a = some da) (hax : a ≠ x) {k : Nat} {d : Nd} (hkx : k ≠ x) (h : leafT T a x da dx mo' co' k = some d) :
    ∃ d0, T k = some d0 ∧ d.path = d0.path ∧ d.par = d0.par ∧ d.elen = d0.elen ∧ d.K = d0.K ∧ d.o = d0.o ∧ d.cap = d0.cap ∧ d.cl = d0.cl := by
  rcases leaf_get ha hax h with ⟨h1, _⟩ | ⟨h1, h2⟩ | ⟨_, _, h3⟩
  · exact absurd h1 hkx
  · subst h1; subst h2; exact ⟨da, ha, rfl, rfl, rfl, rfl, rfl, rfl, rfl⟩
  · exact ⟨d, h3, rfl, rfl, rfl, rfl, rfl, rfl, rfl⟩
theorem leaf_new {T : Tree} {a x : Nat} {da dx : Nd} {mo' co' : Option Nat} (ha : T a = some da) {k : Nat} {d0 : Nd} (hkx : k ≠ x) (h : T k = some d0) :
    ∃ d, leafT T a x da dx mo' co' k = some d ∧ d.path = d0.path ∧ d.par = d0.par ∧ d.elen = d0.elen := by
  unfold leafT
  rw [upd_other _ _ hkx]
  by_cases h2 : k = a
  · subst h2; rw [upd_same]; rw [ha] at h; injection h with h; subst h; exact ⟨_, rfl, rfl, rfl, rfl⟩
  · rw [upd_other _ _ h2]; exact ⟨d0, h, rfl, rfl, rfl⟩

theorem leaf_child {T : Tree} {a x : Nat} {da dx : Nd} {mo' co' : Option Nat} {st : Step} (ha : T a = some da) (hax : a ≠ x) (hx : T x = none) (hp : dx.par = some a) (hf : dx.fst = some st) (p : Nat) (t : Step) (y : Nat) :
    Child (leafT T a x da dx mo' co') p t y ↔ (p = a ∧ t = st ∧ y = x) ∨ Child T p t y := by
  constructor
  · rintro ⟨d, h1, h2, h3⟩
    by_cases hy : y = x
    · subst hy
      rcases leaf_get ha hax h1 with ⟨_, e⟩ | ⟨e, _⟩ | ⟨e, _, _⟩
      · subst e
        rw [hp] at h2; rw [hf] at h3
        injection h2 with h2; injection h3 with h3
        exact .inl ⟨h2.symm, h3.symm, rfl⟩
      · exact absurd e.symm hax
      · exact absurd rfl e
    · obtain ⟨d0, g1, g2, g3, g4, _⟩ := leaf_old ha hax hy h1
      refine .inr ⟨d0, g1, by rw [← g3]; exact h2, ?_⟩
      unfold Nd.fst at h3 ⊢
      rw [← g2, ← g4]; exact h3
  · rintro (⟨rfl, rfl, rfl⟩ | ⟨d0, h1, h2, h3⟩)
    · exact ⟨dx, by unfold leafT; rw [upd_same], hp, hf⟩
    · have hy : y ≠ x := by rintro rfl; rw [hx] at h1; cases h1
      obtain ⟨d, g1, g2, g3, g4⟩ := leaf_new (dx := dx) (mo' := mo') (co' := co') ha hy h1
      refine ⟨d, g1, by rw [g3]; exact h2, ?_⟩
      unfold Nd.fst at h3 ⊢
      rw [g2, g4]; exact h3

theorem leaf_ok {T : Tree} {r a x : Nat} {da dx : Nd} {mo' co' : Option Nat} {st : Step} (h : Ok T r) (ha : T a = some da) (hax : a ≠ x) (hx : T x = none) (hp : dx.par = some a) (hf : dx.fst = some st)
    (hel : 0 < dx.elen) (hle : dx.elen ≤ dx.path.length) (hpath : da.path = dx.path.take (dx.path.length - dx.elen)) (hno : ∀ y, ¬ Child T a st y) (hnp : ∀ b d, T b = some d → d.path ≠ dx.path) (hdom : ∀ s ∈ dx.path, StepOk s) : Ok (leafT T a x da dx mo' co') r where
  root := by
    obtain ⟨d, h1, h2, h3, h4⟩ := h.root
    have hr : r ≠ x := by rintro rfl; rw [hx] at h1; cases h1
    obtain ⟨d', g1, g2, g3, g4⟩ := leaf_new (dx := dx) (mo' := mo') (co' := co') ha hr h1
    exact ⟨d', g1, by rw [g2]; exact h2, by rw [g3]; exact h3, by rw [g4]; exact h4⟩
  par b d hb hbr := by
    by_cases hbx : b = x
    · subst hbx
      rcases leaf_get ha hax hb with ⟨_, e⟩ | ⟨e, _⟩ | ⟨e, _, _⟩
      · subst e
        obtain ⟨d', g1, g2, _, _⟩ := leaf_new (x := b) (dx := d) (mo' := mo') (co' := co') ha hax ha
        exact ⟨a, d', hp, g1, hel, hle, by rw [g2]; exact hpath⟩
      · exact absurd e.symm hax
      · exact absurd rfl e
    · obtain ⟨d0, g1, g2, g3, g4, _⟩ := leaf_old ha hax hbx hb
      obtain ⟨p, dp, f1, f2, f3, f4, f5⟩ := h.par b d0 g1 hbr
      have hpx : p ≠ x := by rintro rfl; rw [hx] at f2; cases f2
      obtain ⟨dp', k1, k2, _, _⟩ := leaf_new (dx := dx) (mo' := mo') (co' := co') ha hpx f2
      exact ⟨p, dp', by rw [g3]; exact f1, k1, by rw [g4]; exact f3, by rw [g4, g2]; exact f4, by rw [k2, g2, g4]; exact f5⟩
  inj b d b' d' hb hb' hpe := by
    by_cases h1 : b = x
    · by_cases h2 : b' = x
      · rw [h1, h2]
      · exfalso
        subst h1
        rcases leaf_get ha hax hb with ⟨_, e⟩ | ⟨e, _⟩ | ⟨e, _, _⟩
        · subst e
          obtain ⟨d0, g1, g2, _⟩ := leaf_old ha hax h2 hb'
          exact hnp b' d0 g1 (by rw [← g2]; exact hpe.symm)
        · exact hax e.symm
        · exact e rfl
    · by_cases h2 : b' = x
      · exfalso
        subst h2
        rcases leaf_get ha hax hb' with ⟨_, e⟩ | ⟨e, _⟩ | ⟨e, _, _⟩
        · subst e
          obtain ⟨d0, g1, g2, _⟩ := leaf_old ha hax h1 hb
          exact hnp b d0 g1 (by rw [← g2]; exact hpe)
        · exact hax e.symm
        · exact e rfl
      · obtain ⟨d0, g1, g2, _⟩ := leaf_old ha hax h1 hb
        obtain ⟨d0', g1', g2', _⟩ := leaf_old ha hax h2 hb'
        exact h.inj b d0 b' d0' g1 g1' (by rw [← g2, ← g2']; exact hpe)
  uniq p s y z hy hz := by
    rw [leaf_child ha hax hx hp hf] at hy hz
    rcases hy with ⟨rfl, rfl, rfl⟩ | hy
    · rcases hz with ⟨_, _, rfl⟩ | hz
      · rfl
      · exact absurd hz (hno z)
    · rcases hz with ⟨rfl, rfl, rfl⟩ | hz
      · exact absurd hy (hno y)
      · exact h.uniq p s y z hy hz
  dom b d hb := by
    by_cases hbx : b = x
    · subst hbx
      rcases leaf_get ha hax hb with ⟨_, e⟩ | ⟨e, _⟩ | ⟨e, _, _⟩
      · subst e; exact hdom
      · exact absurd e.symm hax
      · exact absurd rfl e
    · obtain ⟨d0, g1, g2, _⟩ := leaf_old ha hax hbx hb
      rw [g2]; exact h.dom b d0 g1

theorem leaf_rep {T : Tree} {r a x c : Nat} {da dx : Nd} {mo' : Option Nat} {s : ByteArray} {e : Bool} {g : ByteArray → Option Nat} {w w' : World} (h : Ok T r) (hR : Rep w T c) (ha : T a = some da) (hx : w.heap.size ≤ x)
    (hp : dx.par = some a) (hf : dx.fst = some (s, e)) (hel : 0 < dx.elen) (hmx : dx.mp = none) (hex : dx.each = none) (hso : StepOk (s, e)) (hno : ∀ y, ¬ Child T a (s, e) y)
    (hg : ∀ s, s.size ≤ maxLen → ∀ x, g s = some x ↔ Child T a (s, false) x)
    (hka : ∃ ks, KeyRow w dx.K ks ∧ dx.o + dx.elen ≤ ks.length ∧ dx.cap + dx.o = ks.length ∧ (ks.drop dx.o).take dx.elen = dx.path.drop (dx.path.length - dx.elen))
    (ha' : w'.heap[a]? = some (.cells (nodeArr (edgeV da) (ptrV da.par) (.map mo') (ptrV (if e then some x else da.each)) da.cl) 57 (0, 0)))
    (hx' : w'.heap[x]? = some (.cells (nodeArr (edgeV dx) (ptrV (some a)) (.map none) (ptrV none) dx.cl) 57 (0, 0)))
    (hN : NamedIs w' mo' (c + 1) (held g s e x)) (hmo : mo' = da.mp ∨ (da.mp = none ∧ ∃ m, mo' = some m ∧ w.heap.size ≤ m)) (hF : Fr (fun k => k = a ∨ da.mp = some k) w w') :
    Rep w' (leafT T a x da dx mo' (if e then some x else da.each)) (c + 1) := by
  have hal := hR.lt ha
  have hax : a ≠ x := by omega
  have hxn : T x = none := by
    cases hh : T x with
    | none => rfl
    | some d => have := hR.lt hh; omega
  have hold : ∀ k, k < w.heap.size → k ≠ a → da.mp ≠ some k → w'.heap[k]? = w.heap[k]? := fun k hk h1 h2 => hF.block k hk (fun hh => by rcases hh with hh | hh; exact h1 hh; exact h2 hh)
  obtain ⟨ga, hga, _⟩ := hR.named a da ha
  have hrow : ∀ K ks, KeyRow w K ks → KeyRow w' K ks := fun K ks hk => by
    refine hk.keep (hold K hk.lt (hk.ne (hR.cell a da ha)) (fun hm => ?_))
    rw [hm] at hga
    exact hk.neMap hga rfl
  have hch := fun p t y => leaf_child (T := T) (a := a) (x := x) (da := da) (dx := dx) (mo' := mo') (co' := if e then some x else da.each) ha hax hxn hp hf p t y
  refine ⟨?_, ?_, ?_, ?_, ?_⟩
  · intro b d hb
    rcases leaf_get ha hax hb with ⟨rfl, rfl⟩ | ⟨rfl, rfl⟩ | ⟨h1, h2, h3⟩
    · rw [hp, hmx, hex]; exact hx'
    · exact ha'
    · rw [hold b (hR.lt h3) h2 (fun hm => ?_)]
      · exact hR.cell b d h3
      · rw [hm] at hga; exact hga.ne (hR.cell b d h3) rfl
  · intro b d hb he
    by_cases hbx : b = x
    · subst hbx
      rcases leaf_get ha hax hb with ⟨_, rfl⟩ | ⟨e1, _⟩ | ⟨e1, _, _⟩
      · obtain ⟨ks, k1, k2⟩ := hka
        exact ⟨ks, hrow _ _ k1, k2⟩
      · exact absurd e1.symm hax
      · exact absurd rfl e1
    · obtain ⟨d0, g1, g2, g3, g4, g5, g6, g7, _⟩ := leaf_old ha hax hbx hb
      obtain ⟨ks, k1, k2⟩ := hR.edge b d0 g1 (by rw [← g4]; exact he)
      rw [g2, g4, g5, g6, g7]
      exact ⟨ks, hrow _ _ k1, k2⟩
  · intro b d hb
    rcases leaf_get ha hax hb with ⟨rfl, rfl⟩ | ⟨rfl, rfl⟩ | ⟨h1, h2, h3⟩
    · refine ⟨fun _ => none, ?_, fun s' _ y => ?_⟩
      · rw [hmx]; exact fun _ => rfl
      · rw [hch]
        constructor
        · intro hh; cases hh
        · rintro (⟨hh, _⟩ | ⟨d0, k1, k2, _⟩)
          · exact absurd hh.symm hax
          · obtain ⟨dp, k3⟩ := h.has_parent k1 k2
            rw [hxn] at k3; cases k3
    · refine ⟨held g s e x, hN, fun s' hs' y => ?_⟩
      rw [hch]
      unfold held
      by_cases hh : e = false ∧ s' = s
      · obtain ⟨h1, h2⟩ := hh
        subst h1; subst h2
        rw [if_pos ⟨rfl, rfl⟩]
        constructor
        · intro hh; injection hh with hh; exact .inl ⟨rfl, rfl, hh.symm⟩
        · rintro (⟨_, _, hh⟩ | hh)
          · rw [hh]
          · exact absurd hh (hno y)
      · rw [if_neg hh, hg s' hs' y]
        constructor
        · exact fun hh => .inr hh
        · rintro (⟨_, h2, _⟩ | h2)
          · injection h2 with h3 h4
            exact absurd ⟨h4.symm, h3⟩ hh
          · exact h2
    · obtain ⟨g', hg', hgc⟩ := hR.named b d h3
      refine ⟨g', (hg'.keep (fun m hm => ?_)).mono (Nat.le_succ c), fun s' hs' y => ?_⟩
      · rw [hm] at hg'
        refine hold m hg'.lt (hg'.ne (hR.cell a da ha)) (fun hma => ?_)
        exact h2 (hR.apart b d a da m h3 ha hm hma)
      · rw [hgc s' hs' y, hch]
        constructor
        · exact fun hh => .inr hh
        · rintro (⟨hh, _⟩ | hh)
          · exact absurd hh h2
          · exact hh
  · intro b d hb y
    rcases leaf_get ha hax hb with ⟨rfl, rfl⟩ | ⟨rfl, rfl⟩ | ⟨h1, h2, h3⟩
    · rw [hex, hch]
      constructor
      · intro hh; cases hh
      · rintro (⟨hh, _⟩ | ⟨d0, k1, k2, _⟩)
        · exact absurd hh.symm hax
        · obtain ⟨dp, k3⟩ := h.has_parent k1 k2
          rw [hxn] at k3; cases k3
    · rw [hch]
      show (if e then some x else da.each) = some y ↔ _
      cases e with
      | true =>
        have hs0 : s = ByteArray.empty := hso.1 rfl
        subst hs0
        simp only [if_true]
        constructor
        · intro hh; injection hh with hh; exact .inl ⟨trivial, trivial, hh.symm⟩
        · rintro (⟨_, _, hh⟩ | hh)
          · rw [hh]
          · exact absurd hh (hno y)
      | false =>
        simp only [Bool.false_eq_true, if_false]
        rw [hR.each b da ha y]
        constructor
        · exact fun hh => .inr hh
        · rintro (⟨_, hh, _⟩ | hh)
          · injection hh with _ hh; cases hh
          · exact hh
    · rw [hR.each b d h3 y, hch]
      constructor
      · exact fun hh => .inr hh
      · rintro (⟨hh, _⟩ | hh)
        · exact absurd hh h2
        · exact hh
  · intro b d b' d' m hb hb' hm hm'
    have mp_old : ∀ k dk mk, leafT T a x da dx mo' (if e then some x else da.each) k = some dk → dk.mp = some mk → k = a ∨ ∃ d0, T k = some d0 ∧ d0.mp = some mk ∧ mk < w.heap.size ∧ k ≠ a := by
      intro k dk mk hk hmk
      rcases leaf_get ha hax hk with ⟨rfl, rfl⟩ | ⟨rfl, rfl⟩ | ⟨h1, h2, h3⟩
      · rw [hmx] at hmk; cases hmk
      · exact .inl rfl
      · refine .inr ⟨dk, h3, hmk, ?_, h2⟩
        obtain ⟨g', hg', _⟩ := hR.named k dk h3
        rw [hmk] at hg'; exact hg'.lt
    have mp_a : ∀ dk mk, leafT T a x da dx mo' (if e then some x else da.each) a = some dk → dk.mp = some mk → mo' = some mk := by
      intro dk mk hk hmk
      rcases leaf_get ha hax hk with ⟨h1, _⟩ | ⟨_, rfl⟩ | ⟨_, h2, _⟩
      · exact absurd h1 hax
      · exact hmk
      · exact absurd rfl h2
    have clash : ∀ k d0 mk, mo' = some mk → T k = some d0 → d0.mp = some mk → mk < w.heap.size → k = a := by
      intro k d0 mk h1 h2 h3 h4
      rcases hmo with hh | ⟨_, m1, h5, h6⟩
      · exact hR.apart k d0 a da mk h2 ha h3 (by rw [← hh]; exact h1)
      · rw [h1] at h5; injection h5 with h5; omega
    rcases mp_old b d m hb hm with rfl | ⟨d0, k1, k2, k3, k4⟩
    · rcases mp_old b' d' m hb' hm' with rfl | ⟨d0', k1', k2', k3', k4'⟩
      · rfl
      · exact absurd (clash b' d0' m (mp_a d m hb hm) k1' k2' k3') k4'
    · rcases mp_old b' d' m hb' hm' with rfl | ⟨d0', k1', k2', k3', k4'⟩
      · exact absurd (clash b d0 m (mp_a d' m hb' hm') k1 k2 k3) k4
      · exact hR.apart b d0 b' d0' m k1 k1' k2 k2'
end Go.Proofs.Qxb6602090a
