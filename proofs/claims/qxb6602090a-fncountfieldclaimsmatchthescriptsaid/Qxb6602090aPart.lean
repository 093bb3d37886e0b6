/-
  Seat b6602090a: the tree when an edge is split.
-/
import Derived.Test.Qxb6602090aGrow
namespace Go.Proofs.Qxb6602090a
open Go.RowKit Go.Maps

/-- The node n when its first s steps are cut off; the node made of them; the node above. -/
def cutN (dn : Nd) (x s : Nat) : Nd := { dn with par := some x, elen := dn.elen - s, o := dn.o + s, cap := dn.cap - s }
def madeN (dn : Nd) (P s : Nat) (moX co : Option Nat) : Nd := { path := dn.path.take (dn.path.length - dn.elen + s), par := some P, elen := s, K := dn.K, o := dn.o, cap := dn.cap, mp := moX, each := co, cl := dn.cl.around }
def abvN (dP : Nd) (mo' co' : Option Nat) : Nd := { dP with mp := mo', each := co' }
def splitT (T : Tree) (P n x : Nat) (dP' dn' dx : Nd) : Tree := upd (upd (upd T P dP') n dn') x dx

theorem split_get {T : Tree} {P n x : Nat} {dP' dn' dx : Nd} {k : Nat} {d : Nd} (h : splitT T P n x dP' dn' dx k = some d) :
    (k = x ∧ d = dx) ∨ (k ≠ x ∧ k = n ∧ d = dn') ∨ (k ≠ x ∧ k ≠ n ∧ k = P ∧ d = dP') ∨ (k ≠ x ∧ k ≠ n ∧ k ≠ P ∧ T k = some d) := by
  unfold splitT at h
  by_cases h1 : k = x
  · subst h1; rw [upd_same] at h; injection h with h; exact .inl ⟨rfl, h.symm⟩
  · rw [upd_other _ _ h1] at h
    by_cases h2 : k = n
    · subst h2; rw [upd_same] at h; injection h with h; exact .inr (.inl ⟨h1, rfl, h.symm⟩)
    · rw [upd_other _ _ h2] at h
      by_cases h3 : k = P
      · subst h3; rw [upd_same] at h; injection h with h; exact .inr (.inr (.inl ⟨h1, h2, rfl, h.symm⟩))
      · rw [upd_other _ _ h3] at h; exact .inr (.inr (.inr ⟨h1, h2, h3, h⟩))
theorem split_at_x (T : Tree) (P n x : Nat) (dP' dn' dx : Nd) : splitT T P n x dP' dn' dx x = some dx := by unfold splitT; rw [upd_same]
theorem split_at_n (T : Tree) {P n x : Nat} (dP' dn' dx : Nd) (h : n ≠ x) : splitT T P n x dP' dn' dx n = some dn' := by unfold splitT; rw [upd_other _ _ h, upd_same]
theorem split_at_P (T : Tree) {P n x : Nat} (dP' dn' dx : Nd) (h : P ≠ x) (h2 : P ≠ n) : splitT T P n x dP' dn' dx P = some dP' := by unfold splitT; rw [upd_other _ _ h, upd_other _ _ h2, upd_same]
theorem split_at {T : Tree} {P n x k : Nat} {dP' dn' dx : Nd} (h : k ≠ x) (h2 : k ≠ n) (h3 : k ≠ P) : splitT T P n x dP' dn' dx k = T k := by unfold splitT; rw [upd_other _ _ h, upd_other _ _ h2, upd_other _ _ h3]

/-- What is known where n, below P, is split at s by the new block x. -/
structure Cut (T : Tree) (r P n x s : Nat) (dP dn : Nd) : Prop where
  ok : Ok T r
  hP : T P = some dP
  hn : T n = some dn
  par : dn.par = some P
  s0 : 0 < s
  s1 : s < dn.elen
  fresh : T x = none

variable {T : Tree} {r P n x s : Nat} {dP dn : Nd}
theorem Cut.nP (h : Cut T r P n x s dP dn) : n ≠ P := by
  rintro rfl
  exact h.ok.ne_parent h.hn h.par
theorem Cut.nx (h : Cut T r P n x s dP dn) : n ≠ x := by rintro rfl; have := h.hn; rw [h.fresh] at this; cases this
theorem Cut.Px (h : Cut T r P n x s dP dn) : P ≠ x := by rintro rfl; have := h.hP; rw [h.fresh] at this; cases this
theorem Cut.nr (h : Cut T r P n x s dP dn) : n ≠ r := by
  rintro rfl
  obtain ⟨d, h1, _, h3, _⟩ := h.ok.root
  rw [h.hn] at h1; injection h1 with h1; subst h1
  have := h.par; rw [h3] at this; cases this
theorem Cut.lens (h : Cut T r P n x s dP dn) : 0 < dn.elen ∧ dn.elen ≤ dn.path.length ∧ dP.path = dn.path.take (dn.path.length - dn.elen) := by
  obtain ⟨p, dp, h1, h2, h3, h4, h5⟩ := h.ok.par n dn h.hn h.nr
  rw [h.par] at h1; injection h1 with h1; subst h1
  rw [h.hP] at h2; injection h2 with h2; subst h2
  exact ⟨h3, h4, h5⟩
theorem Cut.has (h : Cut T r P n x s dP dn) (mo' co' moX co : Option Nat) {k : Nat} {d0 : Nd} (hk : T k = some d0) :
    ∃ d, splitT T P n x (abvN dP mo' co') (cutN dn x s) (madeN dn P s moX co) k = some d ∧ d.path = d0.path ∧ (k ≠ n → d.par = d0.par ∧ d.elen = d0.elen) := by
  have hx : k ≠ x := by rintro rfl; rw [h.fresh] at hk; cases hk
  by_cases h2 : k = n
  · subst h2
    rw [h.hn] at hk; injection hk with hk; subst hk
    exact ⟨_, split_at_n T _ _ _ hx, rfl, fun hh => absurd rfl hh⟩
  · by_cases h3 : k = P
    · subst h3
      rw [h.hP] at hk; injection hk with hk; subst hk
      exact ⟨_, split_at_P T _ _ _ hx h2, rfl, fun _ => ⟨rfl, rfl⟩⟩
    · rw [split_at hx h2 h3]; exact ⟨d0, hk, rfl, fun _ => ⟨rfl, rfl⟩⟩
/-- An old node, as it was: but for n, whose path is as it was. -/
theorem Cut.old (h : Cut T r P n x s dP dn) {mo' co' moX co : Option Nat} {k : Nat} {d : Nd} (hkx : k ≠ x) (hkn : k ≠ n) (hk : splitT T P n x (abvN dP mo' co') (cutN dn x s) (madeN dn P s moX co) k = some d) :
    ∃ d0, T k = some d0 ∧ d.path = d0.path ∧ d.par = d0.par ∧ d.elen = d0.elen ∧ d.K = d0.K ∧ d.o = d0.o ∧ d.cap = d0.cap ∧ d.cl = d0.cl := by
  rcases split_get hk with ⟨h1, _⟩ | ⟨_, h1, _⟩ | ⟨_, _, rfl, rfl⟩ | ⟨_, _, _, h3⟩
  · exact absurd h1 hkx
  · exact absurd h1 hkn
  · exact ⟨dP, h.hP, rfl, rfl, rfl, rfl, rfl, rfl, rfl⟩
  · exact ⟨d, h3, rfl, rfl, rfl, rfl, rfl, rfl, rfl⟩
theorem Cut.oldPath (h : Cut T r P n x s dP dn) {mo' co' moX co : Option Nat} {k : Nat} {d : Nd} (hkx : k ≠ x) (hk : splitT T P n x (abvN dP mo' co') (cutN dn x s) (madeN dn P s moX co) k = some d) :
    ∃ d0, T k = some d0 ∧ d.path = d0.path ∧ d.cl = d0.cl := by
  by_cases hkn : k = n
  · subst hkn
    rw [split_at_n T _ _ _ hkx] at hk
    injection hk with hk; subst hk
    exact ⟨dn, h.hn, rfl, rfl⟩
  · obtain ⟨d0, h1, h2, _, _, _, _, _, h3⟩ := h.old hkx hkn hk
    exact ⟨d0, h1, h2, h3⟩

theorem Cut.fst_made (h : Cut T r P n x s dP dn) (moX co : Option Nat) : (madeN dn P s moX co).fst = dn.fst := by
  obtain ⟨h1, h2, h3⟩ := h.lens
  have h4 := h.s1
  have h5 := h.s0
  unfold Nd.fst madeN
  simp only [List.length_take]
  rw [List.getElem?_take_of_lt (by omega)]
  congr 1; omega

theorem Cut.child (h : Cut T r P n x s dP dn) {st0 st1 : Step} (h0 : dn.fst = some st0) (h1 : dn.path[dn.path.length - dn.elen + s]? = some st1) (mo' co' moX co : Option Nat) (p : Nat) (t : Step) (y : Nat) :
    Child (splitT T P n x (abvN dP mo' co') (cutN dn x s) (madeN dn P s moX co)) p t y ↔ (y = x ∧ p = P ∧ t = st0) ∨ (y = n ∧ p = x ∧ t = st1) ∨ (y ≠ n ∧ Child T p t y) := by
  obtain ⟨hl1, hl2, hl3⟩ := h.lens
  have hl4 := h.s1
  have hf1 : (cutN dn x s).fst = some st1 := by
    unfold Nd.fst cutN
    simp only
    rw [← h1]; congr 1; omega
  constructor
  · rintro ⟨d, k1, k2, k3⟩
    by_cases hyx : y = x
    · subst hyx
      rw [split_at_x] at k1; injection k1 with k1; subst k1
      rw [h.fst_made, h0] at k3
      injection k2 with k2; injection k3 with k3
      exact .inl ⟨rfl, k2.symm, k3.symm⟩
    · by_cases hyn : y = n
      · subst hyn
        rw [split_at_n T _ _ _ hyx] at k1; injection k1 with k1; subst k1
        rw [hf1] at k3
        injection k2 with k2; injection k3 with k3
        exact .inr (.inl ⟨rfl, k2.symm, k3.symm⟩)
      · obtain ⟨d0, g1, g2, g3, g4, _⟩ := h.old hyx hyn k1
        refine .inr (.inr ⟨hyn, d0, g1, by rw [← g3]; exact k2, ?_⟩)
        unfold Nd.fst at k3 ⊢
        rw [← g2, ← g4]; exact k3
  · rintro (⟨rfl, rfl, rfl⟩ | ⟨rfl, rfl, rfl⟩ | ⟨hyn, d0, k1, k2, k3⟩)
    · exact ⟨_, split_at_x _ _ _ _ _ _ _, rfl, by rw [h.fst_made, h0]⟩
    · exact ⟨_, split_at_n T _ _ _ h.nx, rfl, hf1⟩
    · obtain ⟨d, g1, g2, g3⟩ := h.has mo' co' moX co k1
      obtain ⟨g3, g4⟩ := g3 hyn
      refine ⟨d, g1, by rw [g3]; exact k2, ?_⟩
      unfold Nd.fst at k3 ⊢
      rw [g2, g4]; exact k3

theorem Cut.newPath (h : Cut T r P n x s dP dn) (moX co : Option Nat) {b : Nat} {d : Nd} (hb : T b = some d) : d.path ≠ (madeN dn P s moX co).path := by
  intro e
  obtain ⟨h1, h2, h3⟩ := h.lens
  have h4 := h.s1
  have h5 := h.s0
  have e' : d.path = dn.path.take (dn.path.length - dn.elen + s) := e
  obtain ⟨st, hst⟩ : ∃ st, dn.path[dn.path.length - dn.elen]? = some st := ⟨_, List.getElem?_eq_getElem (by omega)⟩
  have hpre : dP.path ++ [st] <+: d.path := by
    have : dP.path ++ [st] = dn.path.take (dn.path.length - dn.elen + 1) := by rw [List.take_add_one, h3, hst]; rfl
    rw [this, e']
    exact List.take_prefix_take_left (by omega)
  obtain ⟨y, dy, k1, k2, k3, k4, k5⟩ := h.ok.descend d.path.length b d P dP st (Nat.le_refl _) hb h.hP hpre
  have : y = n := h.ok.uniq P st y n ⟨dy, k1, k2, k3⟩ ⟨dn, h.hn, h.par, hst⟩
  subst this
  rw [h.hn] at k1; injection k1 with k1; subst k1
  have := k4.length_le
  rw [e', List.length_take] at this
  omega

theorem Cut.tree (h : Cut T r P n x s dP dn) (mo' co' moX co : Option Nat) : Ok (splitT T P n x (abvN dP mo' co') (cutN dn x s) (madeN dn P s moX co)) r := by
  obtain ⟨hl1, hl2, hl3⟩ := h.lens
  have hl4 := h.s1
  have hl5 := h.s0
  obtain ⟨st0, hst0⟩ : ∃ st, dn.path[dn.path.length - dn.elen]? = some st := ⟨_, List.getElem?_eq_getElem (by omega)⟩
  obtain ⟨st1, hst1⟩ : ∃ st, dn.path[dn.path.length - dn.elen + s]? = some st := ⟨_, List.getElem?_eq_getElem (by omega)⟩
  have hch := fun p t y => h.child hst0 hst1 mo' co' moX co p t y
  have hmp : (madeN dn P s moX co).path = dn.path.take (dn.path.length - dn.elen + s) := rfl
  refine ⟨?_, ?_, ?_, ?_, ?_⟩
  · obtain ⟨d, h1, h2, h3, h4⟩ := h.ok.root
    obtain ⟨d', g1, g2, g3⟩ := h.has mo' co' moX co h1
    obtain ⟨g3, g4⟩ := g3 (fun e => h.nr e.symm)
    exact ⟨d', g1, by rw [g2]; exact h2, by rw [g3]; exact h3, by rw [g4]; exact h4⟩
  · intro b d hb hbr
    by_cases hbx : b = x
    · subst hbx
      rw [split_at_x] at hb; injection hb with hb; subst hb
      obtain ⟨d', g1, g2, _⟩ := h.has mo' co' moX co h.hP
      refine ⟨P, d', rfl, g1, hl5, ?_, ?_⟩
      · rw [hmp, List.length_take]; show s ≤ _; omega
      · rw [g2, hl3, hmp, List.length_take]
        show _ = List.take (_ - s) _
        rw [List.take_take]
        congr 1; omega
    · by_cases hbn : b = n
      · subst hbn
        rw [split_at_n T _ _ _ hbx] at hb; injection hb with hb; subst hb
        refine ⟨x, _, rfl, split_at_x _ _ _ _ _ _ _, ?_, ?_, ?_⟩
        · show 0 < dn.elen - s; omega
        · show dn.elen - s ≤ dn.path.length; omega
        · show dn.path.take (dn.path.length - dn.elen + s) = dn.path.take (dn.path.length - (dn.elen - s))
          congr 1; omega
      · obtain ⟨d0, g1, g2, g3, g4, _⟩ := h.old hbx hbn hb
        obtain ⟨p, dp, f1, f2, f3, f4, f5⟩ := h.ok.par b d0 g1 hbr
        obtain ⟨dp', k1, k2, _⟩ := h.has mo' co' moX co f2
        exact ⟨p, dp', by rw [g3]; exact f1, k1, by rw [g4]; exact f3, by rw [g4, g2]; exact f4, by rw [k2, g2, g4]; exact f5⟩
  · intro b d b' d' hb hb' hpe
    by_cases h1 : b = x
    · by_cases h2 : b' = x
      · rw [h1, h2]
      · exfalso
        subst h1
        rw [split_at_x] at hb; injection hb with hb; subst hb
        obtain ⟨d0, g1, g2, _⟩ := h.oldPath h2 hb'
        exact h.newPath moX co g1 (by rw [← g2]; exact hpe.symm)
    · by_cases h2 : b' = x
      · exfalso
        subst h2
        rw [split_at_x] at hb'; injection hb' with hb'; subst hb'
        obtain ⟨d0, g1, g2, _⟩ := h.oldPath h1 hb
        exact h.newPath moX co g1 (by rw [← g2]; exact hpe)
      · obtain ⟨d0, g1, g2, _⟩ := h.oldPath h1 hb
        obtain ⟨d0', g1', g2', _⟩ := h.oldPath h2 hb'
        exact h.ok.inj b d0 b' d0' g1 g1' (by rw [← g2, ← g2']; exact hpe)
  · intro p t y z hy hz
    rw [hch] at hy hz
    have hno : ∀ v, ¬ (v ≠ n ∧ Child T P st0 v) := fun v hv => hv.1 (h.ok.uniq P st0 v n hv.2 ⟨dn, h.hn, h.par, hst0⟩)
    have hnx : ∀ t v, ¬ Child T x t v := fun t v hv => by
      obtain ⟨d0, k1, k2, _⟩ := hv
      obtain ⟨dp, k3⟩ := h.ok.has_parent k1 k2
      rw [h.fresh] at k3; cases k3
    rcases hy with ⟨rfl, rfl, rfl⟩ | ⟨rfl, rfl, rfl⟩ | ⟨hyn, hy⟩
    · rcases hz with ⟨rfl, _, _⟩ | ⟨_, hz, _⟩ | hz
      · rfl
      · exact absurd hz h.Px
      · exact absurd hz (hno z)
    · rcases hz with ⟨_, hz, _⟩ | ⟨rfl, _, _⟩ | hz
      · exact absurd hz.symm h.Px
      · rfl
      · exact absurd hz.2 (hnx _ _)
    · rcases hz with ⟨_, rfl, rfl⟩ | ⟨_, rfl, rfl⟩ | ⟨hzn, hz⟩
      · exact absurd ⟨hyn, hy⟩ (hno y)
      · exact absurd hy (hnx _ _)
      · exact h.ok.uniq p t y z hy hz
  · intro b d hb
    by_cases hbx : b = x
    · subst hbx
      rw [split_at_x] at hb; injection hb with hb; subst hb
      intro t ht
      exact h.ok.dom n dn h.hn t (List.mem_of_mem_take ht)
    · obtain ⟨d0, g1, g2, _⟩ := h.oldPath hbx hb
      rw [g2]; exact h.ok.dom b d0 g1

theorem Cut.rep (h : Cut T r P n x s dP dn) {c : Nat} {s0 s1 : ByteArray} {e0 e1 : Bool} {g : ByteArray → Option Nat} {mo' moX : Option Nat} {w w' : World} (hR : Rep w T c)
    (hst0 : dn.fst = some (s0, e0)) (hst1 : dn.path[dn.path.length - dn.elen + s]? = some (s1, e1)) (hx : w.heap.size ≤ x)
    (hg : ∀ s, s.size ≤ maxLen → ∀ x, g s = some x ↔ Child T P (s, false) x)
    (hP' : w'.heap[P]? = some (.cells (nodeArr (edgeV dP) (ptrV dP.par) (.map mo') (ptrV (if e0 then some x else dP.each)) dP.cl) 57 (0, 0))) (hNP : NamedIs w' mo' (c + 1) (held g s0 e0 x)) (hmo : mo' = dP.mp ∨ (dP.mp = none ∧ ∃ m, mo' = some m ∧ w.heap.size ≤ m))
    (hn' : w'.heap[n]? = some (.cells (nodeArr (.slice (some ⟨dn.K, dn.o * 2 + s * 2, none⟩) (dn.elen - s) (dn.cap - s)) (ptrV (some x)) (.map dn.mp) (ptrV dn.each) dn.cl) 57 (0, 0)))
    (hx' : w'.heap[x]? = some (.cells (nodeArr (.slice (some ⟨dn.K, dn.o * 2, none⟩) s dn.cap) (ptrV (some P)) (.map moX) (ptrV (if e1 then some n else none)) dn.cl.around) 57 (0, 0))) (hNX : NamedIs w' moX 1 (held (fun _ => none) s1 e1 n)) (hmX : ∀ m, moX = some m → w.heap.size ≤ m ∧ mo' ≠ some m)
    (hF : Fr (fun k => k = P ∨ k = n ∨ dP.mp = some k) w w') :
    Rep w' (splitT T P n x (abvN dP mo' (if e0 then some x else dP.each)) (cutN dn x s) (madeN dn P s moX (if e1 then some n else none))) (c + 1) := by
  obtain ⟨hl1, hl2, hl3⟩ := h.lens
  have hl4 := h.s1
  have hl5 := h.s0
  have hch := fun p t y => h.child hst0 hst1 mo' (if e0 then some x else dP.each) moX (if e1 then some n else none) p t y
  obtain ⟨gP, hgP, _⟩ := hR.named P dP h.hP
  obtain ⟨gn, hgn, hgnc⟩ := hR.named n dn h.hn
  have hold : ∀ k, k < w.heap.size → k ≠ P → k ≠ n → dP.mp ≠ some k → w'.heap[k]? = w.heap[k]? := fun k hk h1 h2 h3 => hF.block k hk (fun hh => by rcases hh with hh | hh | hh; exact h1 hh; exact h2 hh; exact h3 hh)
  have hrow : ∀ K ks, KeyRow w K ks → KeyRow w' K ks := fun K ks hk => by
    refine hk.keep (hold K hk.lt (hk.ne (hR.cell P dP h.hP)) (hk.ne (hR.cell n dn h.hn)) (fun hm => ?_))
    rw [hm] at hgP
    exact hk.neMap hgP rfl
  have hnx : ∀ t v, ¬ Child T x t v := fun t v hv => by
    obtain ⟨d0, k1, k2, _⟩ := hv
    obtain ⟨dp, k3⟩ := h.ok.has_parent k1 k2
    rw [h.fresh] at k3; cases k3
  have hso0 : StepOk (s0, e0) := h.ok.dom n dn h.hn _ (List.mem_of_getElem? hst0)
  have hso1 : StepOk (s1, e1) := h.ok.dom n dn h.hn _ (List.mem_of_getElem? hst1)
  have hcn : Child T P (s0, e0) n := ⟨dn, h.hn, h.par, hst0⟩
  have hun : ∀ y, Child T P (s0, e0) y → y = n := fun y hy => h.ok.uniq P _ y n hy hcn
  have hnp : ∀ b t, Child T b t n → b = P := fun b t hb => by
    obtain ⟨d0, k1, k2, _⟩ := hb
    rw [h.hn] at k1; injection k1 with k1; subst k1
    rw [h.par] at k2; injection k2 with k2; exact k2.symm
  have hother : ∀ b t y, b ≠ P → b ≠ x → (Child (splitT T P n x (abvN dP mo' (if e0 then some x else dP.each)) (cutN dn x s) (madeN dn P s moX (if e1 then some n else none))) b t y ↔ Child T b t y) := by
    intro b t y h1 h2
    rw [hch]
    constructor
    · rintro (⟨_, hh, _⟩ | ⟨_, hh, _⟩ | ⟨_, hh⟩)
      · exact absurd hh h1
      · exact absurd hh h2
      · exact hh
    · intro hh
      refine .inr (.inr ⟨?_, hh⟩)
      rintro rfl
      exact h1 (hnp _ _ hh)
  refine ⟨?_, ?_, ?_, ?_, ?_⟩
  · intro b d hb
    rcases split_get hb with ⟨rfl, rfl⟩ | ⟨_, rfl, rfl⟩ | ⟨_, _, rfl, rfl⟩ | ⟨h1, h2, h3, h4⟩
    · have : edgeV (madeN dn P s moX (if e1 then some n else none)) = .slice (some ⟨dn.K, dn.o * 2, none⟩) s dn.cap := by
        unfold edgeV madeN
        simp only
        rw [if_neg (by omega)]
      rw [this]; exact hx'
    · have : edgeV (cutN dn x s) = .slice (some ⟨dn.K, dn.o * 2 + s * 2, none⟩) (dn.elen - s) (dn.cap - s) := by
        unfold edgeV cutN
        simp only
        rw [if_neg (by omega), show (dn.o + s) * 2 = dn.o * 2 + s * 2 from by omega]
      rw [this]; exact hn'
    · exact hP'
    · rw [hold b (hR.lt h4) h3 h2 (fun hm => ?_)]
      · exact hR.cell b d h4
      · rw [hm] at hgP; exact hgP.ne (hR.cell b d h4) rfl
  · intro b d hb he
    obtain ⟨kn, kn1, kn2, kn3, kn4⟩ := hR.edge n dn h.hn hl1
    rcases split_get hb with ⟨rfl, rfl⟩ | ⟨_, rfl, rfl⟩ | ⟨h1, h2, h3, h4⟩ | ⟨h1, h2, h3, h4⟩
    · refine ⟨kn, hrow _ _ kn1, ?_, kn3, ?_⟩
      · show dn.o + s ≤ _; omega
      · show (kn.drop dn.o).take s = (dn.path.take (dn.path.length - dn.elen + s)).drop ((dn.path.take (dn.path.length - dn.elen + s)).length - s)
        have e1 : (kn.drop dn.o).take s = ((kn.drop dn.o).take dn.elen).take s := by rw [List.take_take]; congr 1; omega
        rw [e1, kn4, List.length_take, List.drop_take]
        congr 1
        · omega
        · congr 1; omega
    · refine ⟨kn, hrow _ _ kn1, ?_, ?_, ?_⟩
      · show dn.o + s + (dn.elen - s) ≤ _; omega
      · show dn.cap - s + (dn.o + s) = _; omega
      · show (kn.drop (dn.o + s)).take (dn.elen - s) = dn.path.drop (dn.path.length - (dn.elen - s))
        have e1 : (kn.drop (dn.o + s)).take (dn.elen - s) = ((kn.drop dn.o).take dn.elen).drop s := by rw [List.drop_take, List.drop_drop]
        rw [e1, kn4, List.drop_drop]
        congr 1; omega
    · obtain ⟨d0, g1, g2, g3, g4, g5, g6, g7, _⟩ := h.old h1 h2 hb
      obtain ⟨ks, k1, k2⟩ := hR.edge b d0 g1 (by rw [← g4]; exact he)
      rw [g2, g4, g5, g6, g7]
      exact ⟨ks, hrow _ _ k1, k2⟩
    · obtain ⟨ks, k1, k2⟩ := hR.edge b d h4 he
      exact ⟨ks, hrow _ _ k1, k2⟩
  · intro b d hb
    rcases split_get hb with ⟨rfl, rfl⟩ | ⟨hbx, rfl, rfl⟩ | ⟨hbx, hbn, rfl, rfl⟩ | ⟨h1, h2, h3, h4⟩
    · refine ⟨_, hNX.mono (by omega), fun s' _ y => ?_⟩
      rw [hch]
      unfold held
      by_cases hh : e1 = false ∧ s' = s1
      · obtain ⟨k1, k2⟩ := hh
        subst k1; subst k2
        rw [if_pos ⟨rfl, rfl⟩]
        constructor
        · intro hh; injection hh with hh; exact .inr (.inl ⟨hh.symm, rfl, rfl⟩)
        · rintro (⟨_, hh, _⟩ | ⟨hh, _, _⟩ | ⟨_, hh⟩)
          · exact absurd hh.symm h.Px
          · rw [hh]
          · exact absurd hh (hnx _ _)
      · rw [if_neg hh]
        constructor
        · intro hh; cases hh
        · rintro (⟨_, hh, _⟩ | ⟨_, _, k⟩ | ⟨_, hh⟩)
          · exact absurd hh.symm h.Px
          · injection k with k1 k2
            exact absurd ⟨k2.symm, k1⟩ hh
          · exact absurd hh (hnx _ _)
    · refine ⟨gn, (hgn.keep (fun m hm => ?_)).mono (Nat.le_succ c), fun s' hs' y => ?_⟩
      · rw [hm] at hgn
        refine hold m hgn.lt (hgn.ne (hR.cell P dP h.hP)) (hgn.ne (hR.cell b dn h.hn)) (fun hma => ?_)
        exact h.nP (hR.apart b dn P dP m h.hn h.hP hm hma)
      · rw [hgnc s' hs' y, hother b _ y h.nP h.nx]
    · refine ⟨_, hNP, fun s' hs' y => ?_⟩
      rw [hch]
      unfold held
      by_cases hh : e0 = false ∧ s' = s0
      · obtain ⟨k1, k2⟩ := hh
        subst k1; subst k2
        rw [if_pos ⟨rfl, rfl⟩]
        constructor
        · intro hh; injection hh with hh; exact .inl ⟨hh.symm, rfl, rfl⟩
        · rintro (⟨hh, _, _⟩ | ⟨_, hh, _⟩ | ⟨k, hh⟩)
          · rw [hh]
          · exact absurd hh h.Px
          · exact absurd (hun y hh) k
      · rw [if_neg hh, hg s' hs' y]
        constructor
        · intro k
          refine .inr (.inr ⟨?_, k⟩)
          rintro rfl
          obtain ⟨d0, k1, k2, k3⟩ := k
          rw [h.hn] at k1; injection k1 with k1; subst k1
          rw [hst0] at k3; injection k3 with k3; injection k3 with k3 k4
          exact hh ⟨k4, k3.symm⟩
        · rintro (⟨_, _, k⟩ | ⟨_, k, _⟩ | ⟨_, k⟩)
          · injection k with k1 k2
            exact absurd ⟨k2.symm, k1⟩ hh
          · exact absurd k h.Px
          · exact k
    · obtain ⟨g', hg', hgc⟩ := hR.named b d h4
      refine ⟨g', (hg'.keep (fun m hm => ?_)).mono (Nat.le_succ c), fun s' hs' y => ?_⟩
      · rw [hm] at hg'
        refine hold m hg'.lt (hg'.ne (hR.cell P dP h.hP)) (hg'.ne (hR.cell n dn h.hn)) (fun hma => ?_)
        exact h3 (hR.apart b d P dP m h4 h.hP hm hma)
      · rw [hgc s' hs' y, hother b _ y h3 h1]
  · intro b d hb y
    rcases split_get hb with ⟨rfl, rfl⟩ | ⟨hbx, rfl, rfl⟩ | ⟨hbx, hbn, rfl, rfl⟩ | ⟨h1, h2, h3, h4⟩
    · rw [hch]
      show (if e1 then some n else none) = some y ↔ _
      cases e1 with
      | true =>
        have hs0 : s1 = ByteArray.empty := hso1.1 rfl
        subst hs0
        rw [if_pos rfl]
        constructor
        · intro hh; injection hh with hh; exact .inr (.inl ⟨hh.symm, rfl, rfl⟩)
        · rintro (⟨_, hh, _⟩ | ⟨hh, _, _⟩ | ⟨_, hh⟩)
          · exact absurd hh.symm h.Px
          · rw [hh]
          · exact absurd hh (hnx _ _)
      | false =>
        rw [if_neg (by simp)]
        constructor
        · intro hh; cases hh
        · rintro (⟨_, hh, _⟩ | ⟨_, _, k⟩ | ⟨_, hh⟩)
          · exact absurd hh.symm h.Px
          · injection k with _ k; cases k
          · exact absurd hh (hnx _ _)
    · rw [hother b _ y h.nP h.nx]
      exact hR.each b dn h.hn y
    · rw [hch]
      show (if e0 then some x else dP.each) = some y ↔ _
      cases e0 with
      | true =>
        have hs0 : s0 = ByteArray.empty := hso0.1 rfl
        subst hs0
        rw [if_pos rfl]
        constructor
        · intro hh; injection hh with hh; exact .inl ⟨hh.symm, rfl, rfl⟩
        · rintro (⟨hh, _, _⟩ | ⟨_, hh, _⟩ | ⟨k, hh⟩)
          · rw [hh]
          · exact absurd hh h.Px
          · exact absurd (hun y hh) k
      | false =>
        rw [if_neg (by simp), hR.each b dP h.hP y]
        constructor
        · intro k
          refine .inr (.inr ⟨?_, k⟩)
          rintro rfl
          obtain ⟨d0, k1, k2, k3⟩ := k
          rw [h.hn] at k1; injection k1 with k1; subst k1
          rw [hst0] at k3; injection k3 with k3; injection k3 with k3 k4
          cases k4
        · rintro (⟨_, _, k⟩ | ⟨_, k, _⟩ | ⟨_, k⟩)
          · injection k with k1 k2; cases k2
          · exact absurd k h.Px
          · exact k
    · rw [hother b _ y h3 h1]
      exact hR.each b d h4 y
  · intro b d b' d' m hb hb' hm hm'
    have mp_of : ∀ k dk, splitT T P n x (abvN dP mo' (if e0 then some x else dP.each)) (cutN dn x s) (madeN dn P s moX (if e1 then some n else none)) k = some dk → dk.mp = some m →
        (k = x ∧ moX = some m) ∨ (k = P ∧ mo' = some m) ∨ (k ≠ P ∧ k ≠ x ∧ ∃ d0, T k = some d0 ∧ d0.mp = some m ∧ m < w.heap.size) := by
      intro k dk hk hmk
      have hlt : ∀ k d0, T k = some d0 → d0.mp = some m → m < w.heap.size := fun k d0 h1 h2 => by
        obtain ⟨g', hg', _⟩ := hR.named k d0 h1
        rw [h2] at hg'; exact hg'.lt
      rcases split_get hk with ⟨rfl, rfl⟩ | ⟨h1, rfl, rfl⟩ | ⟨_, _, rfl, rfl⟩ | ⟨h1, h2, h3, h4⟩
      · exact .inl ⟨rfl, hmk⟩
      · exact .inr (.inr ⟨h.nP, h1, dn, h.hn, hmk, hlt _ dn h.hn hmk⟩)
      · exact .inr (.inl ⟨rfl, hmk⟩)
      · exact .inr (.inr ⟨h3, h1, dk, h4, hmk, hlt _ dk h4 hmk⟩)
    have clash : ∀ k d0, mo' = some m → T k = some d0 → d0.mp = some m → m < w.heap.size → k = P := by
      intro k d0 h1 h2 h3 h4
      rcases hmo with hh | ⟨_, m1, h5, h6⟩
      · exact hR.apart k d0 P dP m h2 h.hP h3 (by rw [← hh]; exact h1)
      · rw [h1] at h5; injection h5 with h5; omega
    rcases mp_of b d hb hm with ⟨rfl, a1⟩ | ⟨rfl, a1⟩ | ⟨a1, a2, d0, a3, a4, a5⟩
    · rcases mp_of b' d' hb' hm' with ⟨rfl, _⟩ | ⟨rfl, b1⟩ | ⟨_, _, d0', b3, b4, b5⟩
      · rfl
      · exact absurd b1 (hmX m a1).2
      · have := (hmX m a1).1; omega
    · rcases mp_of b' d' hb' hm' with ⟨rfl, b1⟩ | ⟨rfl, b1⟩ | ⟨b1, b2, d0', b3, b4, b5⟩
      · exact absurd a1 (hmX m b1).2
      · rfl
      · exact absurd (clash b' d0' a1 b3 b4 b5) b1
    · rcases mp_of b' d' hb' hm' with ⟨rfl, b1⟩ | ⟨rfl, b1⟩ | ⟨b1, b2, d0', b3, b4, b5⟩
      · have := (hmX m b1).1; omega
      · exact absurd (clash b d0 b1 a3 a4 a5) a1
      · exact hR.apart b d0 b' d0' m a3 b3 a4 b4
end Go.Proofs.Qxb6602090a
