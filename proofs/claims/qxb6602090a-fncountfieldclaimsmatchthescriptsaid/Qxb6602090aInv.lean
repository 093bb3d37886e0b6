/-
  Seat b6602090a: the tree's state, and what each step of countField makes of it.
-/
import Derived.Test.Qxb6602090aClaims
namespace Go.Proofs.Qxb6602090a
open Go.RowKit Go.Maps

structure St (w : World) (T : Tree) (r c : Nat) (S : List Clm) (f : Key → Cl) : Prop where
  ok : Ok T r
  rep : Rep w T c
  cov : ∀ m ∈ S, ∃ b d, T b = some d ∧ d.path = m.key
  cl : ∀ b d, T b = some d → d.cl = f d.path

/-- From one state to a later one. -/
structure Ex (w0 : World) (T0 : Tree) (w : World) (T : Tree) : Prop where
  fr : Fr (Foot T0) w0 w
  keep : ∀ b d, T0 b = some d → ∃ d', T b = some d' ∧ d'.path = d.path
  old : ∀ i, i < w0.heap.size → Foot T i → Foot T0 i
theorem Ex.refl (w : World) (T : Tree) : Ex w T w T := ⟨Fr.refl _ _, fun _ d h => ⟨d, h, rfl⟩, fun _ _ h => h⟩
theorem Ex.trans {w0 w1 w2 : World} {T0 T1 T2 : Tree} (h : Ex w0 T0 w1 T1) (k : Ex w1 T1 w2 T2) : Ex w0 T0 w2 T2 where
  fr := h.fr.andThen k.fr (fun i hi hf => h.old i hi hf)
  keep b d hb := by
    obtain ⟨d1, h1, h2⟩ := h.keep b d hb
    obtain ⟨d2, h3, h4⟩ := k.keep b d1 h1
    exact ⟨d2, h3, h4.trans h2⟩
  old i hi hf := h.old i hi (k.old i (Nat.lt_of_lt_of_le hi h.fr.size) hf)
theorem Ex.quiet {w w' : World} (T : Tree) (h : Fr (fun _ => False) w w') : Ex w T w' T := ⟨h.mono (fun _ _ f => f.elim), fun _ d h => ⟨d, h, rfl⟩, fun _ _ h => h⟩
theorem St.quiet {w w' : World} {T : Tree} {r c : Nat} {S : List Clm} {f : Key → Cl} (h : St w T r c S f) (hw : Fr (fun _ => False) w w') : St w' T r c S f := ⟨h.ok, h.rep.keep hw, h.cov, h.cl⟩
/-- A key's row outlives the tree's steps. -/
theorem KeyRow.ex {w w' : World} {T T' : Tree} {r c K : Nat} {S : List Clm} {f : Key → Cl} {ks : Key} (h : KeyRow w K ks) (hS : St w T r c S f) (hE : Ex w T w' T') : KeyRow w' K ks := by
  refine h.keep (hE.fr.block K h.lt ?_)
  obtain ⟨arr, h1, _⟩ := h
  exact hS.rep.not_foot h1 (by decide)

/-! ### claims turn -/
def turnT (T : Tree) (a : Nat) (da : Nd) (v : Cl) : Tree := upd T a { da with cl := v }
theorem turn_get {T : Tree} {a : Nat} {da : Nd} {v : Cl} {k : Nat} {d : Nd} (h : turnT T a da v k = some d) : (k = a ∧ d = { da with cl := v }) ∨ (k ≠ a ∧ T k = some d) := by
  unfold turnT at h
  by_cases h1 : k = a
  · subst h1; rw [upd_same] at h; injection h with h; exact .inl ⟨rfl, h.symm⟩
  · rw [upd_other _ _ h1] at h; exact .inr ⟨h1, h⟩
theorem turn_old {T : Tree} {a : Nat} {da : Nd} {v : Cl} (ha : T a = some da) {k : Nat} {d : Nd} (h : turnT T a da v k = some d) : ∃ d0, T k = some d0 ∧ d = { d0 with cl := d.cl } := by
  rcases turn_get h with ⟨rfl, rfl⟩ | ⟨_, h⟩
  · exact ⟨da, ha, rfl⟩
  · exact ⟨d, h, rfl⟩
theorem turn_has {T : Tree} {a : Nat} {da : Nd} (v : Cl) (ha : T a = some da) {k : Nat} {d0 : Nd} (h : T k = some d0) : ∃ u, turnT T a da v k = some { d0 with cl := u } := by
  unfold turnT
  by_cases h1 : k = a
  · subst h1; rw [upd_same]; rw [ha] at h; injection h with h; subst h; exact ⟨v, rfl⟩
  · rw [upd_other _ _ h1]; exact ⟨d0.cl, h⟩
theorem turn_child {T : Tree} {a : Nat} {da : Nd} {v : Cl} (ha : T a = some da) (p : Nat) (t : Step) (y : Nat) : Child (turnT T a da v) p t y ↔ Child T p t y := by
  constructor
  · rintro ⟨d, h1, h2, h3⟩
    obtain ⟨d0, k1, k2⟩ := turn_old ha h1
    rw [k2] at h2 h3
    exact ⟨d0, k1, h2, h3⟩
  · rintro ⟨d, h1, h2, h3⟩
    obtain ⟨u, k1⟩ := turn_has v ha h1
    exact ⟨_, k1, h2, h3⟩
theorem turn_ok {T : Tree} {r a : Nat} {da : Nd} (v : Cl) (h : Ok T r) (ha : T a = some da) : Ok (turnT T a da v) r where
  root := by
    obtain ⟨d, h1, h2⟩ := h.root
    obtain ⟨u, k1⟩ := turn_has v ha h1
    exact ⟨_, k1, h2⟩
  par b d hb hbr := by
    obtain ⟨d0, k1, k2⟩ := turn_old ha hb
    obtain ⟨p, dp, h1, h2, h3⟩ := h.par b d0 k1 hbr
    obtain ⟨u, k3⟩ := turn_has v ha h2
    rw [k2]
    exact ⟨p, _, h1, k3, h3⟩
  inj b d b' d' hb hb' hp := by
    obtain ⟨d0, k1, k2⟩ := turn_old ha hb
    obtain ⟨d0', k1', k2'⟩ := turn_old ha hb'
    rw [k2, k2'] at hp
    exact h.inj b d0 b' d0' k1 k1' hp
  uniq p s x y hx hy := by
    rw [turn_child ha] at hx hy
    exact h.uniq p s x y hx hy
  dom b d hb := by
    obtain ⟨d0, k1, k2⟩ := turn_old ha hb
    rw [k2]
    exact h.dom b d0 k1
theorem turn_rep {T : Tree} {a c : Nat} {da : Nd} {v : Cl} {w w' : World} (h : Rep w T c) (ha : T a = some da)
    (hb : w'.heap[a]? = some (.cells (nodeArr (edgeV da) (ptrV da.par) (.map da.mp) (ptrV da.each) v) 57 (0, 0))) (hF : Fr (· = a) w w') : Rep w' (turnT T a da v) c where
  cell b d hbd := by
    rcases turn_get hbd with ⟨rfl, rfl⟩ | ⟨h1, h2⟩
    · exact hb
    · rw [hF.block b (h.lt h2) h1]; exact h.cell b d h2
  edge b d hbd he := by
    obtain ⟨d0, k1, k2⟩ := turn_old ha hbd
    rw [k2] at he ⊢
    obtain ⟨ks, h1, h2⟩ := h.edge b d0 k1 he
    exact ⟨ks, h1.keep (hF.block _ h1.lt (h1.ne (h.cell a da ha))), h2⟩
  named b d hbd := by
    obtain ⟨d0, k1, k2⟩ := turn_old ha hbd
    rw [k2]
    obtain ⟨g, hg, h2⟩ := h.named b d0 k1
    refine ⟨g, hg.keep (fun m hm => ?_), fun s hs x => by rw [turn_child ha]; exact h2 s hs x⟩
    have hm : d0.mp = some m := hm
    rw [hm] at hg
    exact hF.block m hg.lt (hg.ne (h.cell a da ha))
  each b d hbd x := by
    obtain ⟨d0, k1, k2⟩ := turn_old ha hbd
    rw [k2, turn_child ha]
    exact h.each b d0 k1 x
  apart b d b' d' m hbd hbd' hm hm' := by
    obtain ⟨d0, k1, k2⟩ := turn_old ha hbd
    obtain ⟨d0', k1', k2'⟩ := turn_old ha hbd'
    rw [k2] at hm
    rw [k2'] at hm'
    exact h.apart b d0 b' d0' m k1 k1' hm hm'
theorem St.turn {w w' : World} {T : Tree} {r c a : Nat} {da : Nd} {S R : List Clm} {f g : Key → Cl} {v : Cl} (h : St w T r c S f) (ha : T a = some da)
    (hb : w'.heap[a]? = some (.cells (nodeArr (edgeV da) (ptrV da.par) (.map da.mp) (ptrV da.each) v) 57 (0, 0))) (hF : Fr (· = a) w w')
    (hv : v = g da.path) (hg : ∀ b d, T b = some d → d.path ≠ da.path → g d.path = f d.path) (hR : ∀ m ∈ R, m ∈ S ∨ m.key = da.path) :
    St w' (turnT T a da v) r c R g ∧ Ex w T w' (turnT T a da v) := by
  refine ⟨⟨turn_ok v h.ok ha, turn_rep h.rep ha hb hF, fun m hm => ?_, fun b d hbd => ?_⟩, ?_, ?_, ?_⟩
  · rcases hR m hm with h1 | h1
    · obtain ⟨b, d, h2, h3⟩ := h.cov m h1
      obtain ⟨u, k1⟩ := turn_has v ha h2
      exact ⟨b, _, k1, h3⟩
    · obtain ⟨u, k1⟩ := turn_has v ha ha
      exact ⟨a, _, k1, h1.symm⟩
  · rcases turn_get hbd with ⟨rfl, rfl⟩ | ⟨h1, h2⟩
    · exact hv
    · rw [h.cl b d h2, hg b d h2 (fun e => h1 (h.ok.inj b d a da h2 ha e))]
  · exact hF.mono (fun k _ hk => by subst hk; exact .inl ⟨da, ha⟩)
  · intro b d hbd
    obtain ⟨u, k1⟩ := turn_has v ha hbd
    exact ⟨_, k1, rfl⟩
  · rintro i hi (⟨d, hd⟩ | ⟨b, d, hd, hm⟩)
    · obtain ⟨d0, k1, k2⟩ := turn_old ha hd
      exact .inl ⟨d0, k1⟩
    · obtain ⟨d0, k1, k2⟩ := turn_old ha hd
      rw [k2] at hm
      exact .inr ⟨b, d0, k1, hm⟩

/-! ### on the way down -/
/-- The claims on the way: those of the nodes above, down to step j, count the claim m already. -/
def pcl (S : List Clm) (m : Clm) (j : Nat) (q : Key) : Cl := if q <+: m.key ∧ q.length ≤ j ∧ q ≠ m.key then claimsOf (S ++ [m]) q else claimsOf S q

theorem St.cong {w : World} {T : Tree} {r c : Nat} {S : List Clm} {f g : Key → Cl} (h : St w T r c S f) (hg : ∀ b d, T b = some d → g d.path = f d.path) : St w T r c S g :=
  ⟨h.ok, h.rep, h.cov, fun b d hb => by rw [h.cl b d hb, hg b d hb]⟩
theorem St.start {w : World} {T : Tree} {r c : Nat} {S : List Clm} (h : St w T r c S (claimsOf S)) (m : Clm) : St w T r c S (pcl S m 0) := by
  refine h.cong (fun b d _ => ?_)
  unfold pcl
  by_cases hh : d.path <+: m.key ∧ d.path.length ≤ 0 ∧ d.path ≠ m.key
  · rw [if_pos hh]
    have e : d.path = [] := List.eq_nil_of_length_eq_zero (by omega)
    rw [e]
    exact claims_root (fun e2 => hh.2.2 (by rw [e, e2]))
  · rw [if_neg hh]
/-- The claim's own node counts it: done. -/
theorem St.finish {w w' : World} {T : Tree} {r c a : Nat} {da : Nd} {S : List Clm} {m : Clm} (h : St w T r c S (pcl S m m.key.length)) (ha : T a = some da) (hp : da.path = m.key)
    (hb : w'.heap[a]? = some (.cells (nodeArr (edgeV da) (ptrV da.par) (.map da.mp) (ptrV da.each) (da.cl.count m.place m.deny false)) 57 (0, 0))) (hF : Fr (· = a) w w') :
    St w' (turnT T a da (da.cl.count m.place m.deny false)) r c (S ++ [m]) (claimsOf (S ++ [m])) ∧ Ex w T w' (turnT T a da (da.cl.count m.place m.deny false)) := by
  refine h.turn ha hb hF ?_ ?_ ?_
  · rw [h.cl a da ha, hp]
    unfold pcl
    rw [if_neg (fun hh => hh.2.2 rfl), claims_at]
  · intro b d hbd hne
    unfold pcl
    by_cases hh : d.path <+: m.key
    · rw [if_pos ⟨hh, hh.length_le, by rw [← hp]; exact hne⟩]
    · rw [if_neg (fun k => hh k.1), claims_other hh]
  · intro m' hm'
    rcases List.mem_append.1 hm' with h1 | h1
    · exact .inl h1
    · rw [List.mem_singleton.1 h1]; exact .inr hp.symm
/-- The next node down, which ends the key. -/
theorem St.land {w : World} {T : Tree} {r c : Nat} {S : List Clm} {m : Clm} {j j' : Nat} (h : St w T r c S (pcl S m j)) (hj : j' = m.key.length) (hjj : j ≤ j')
    (hb : ∀ b d, T b = some d → d.path <+: m.key → j < d.path.length → d.path.length ≤ j' → d.path.length = j') : St w T r c S (pcl S m j') := by
  refine h.cong (fun b d hbd => ?_)
  unfold pcl
  by_cases hh : d.path <+: m.key ∧ d.path.length ≤ j ∧ d.path ≠ m.key
  · rw [if_pos hh, if_pos ⟨hh.1, by omega, hh.2.2⟩]
  · rw [if_neg hh, if_neg]
    rintro ⟨h1, h2, h3⟩
    by_cases h4 : d.path.length ≤ j
    · exact hh ⟨h1, h4, h3⟩
    · have := hb b d hbd h1 (by omega) h2
      exact h3 (h1.eq_of_length_le (by omega))
/-- The next node down, within which the key's field lies: it counts the claim so. -/
theorem St.pass {w w' : World} {T : Tree} {r c x : Nat} {dx : Nd} {S : List Clm} {m : Clm} {j j' : Nat} (h : St w T r c S (pcl S m j)) (hj : j' < m.key.length) (hjj : j < j')
    (hx : T x = some dx) (hp : dx.path = m.key.take j') (hb : ∀ b d, T b = some d → d.path <+: m.key → j < d.path.length → d.path.length ≤ j' → d.path.length = j')
    (hbx : w'.heap[x]? = some (.cells (nodeArr (edgeV dx) (ptrV dx.par) (.map dx.mp) (ptrV dx.each) (dx.cl.count m.place m.deny true)) 57 (0, 0))) (hF : Fr (· = x) w w') :
    St w' (turnT T x dx (dx.cl.count m.place m.deny true)) r c S (pcl S m j') ∧ Ex w T w' (turnT T x dx (dx.cl.count m.place m.deny true)) := by
  have hl : (m.key.take j').length = j' := by rw [List.length_take]; omega
  have hpre : m.key.take j' <+: m.key := List.take_prefix _ _
  have hne : m.key ≠ m.key.take j' := fun e => by have := congrArg List.length e; omega
  refine h.turn hx hbx hF ?_ ?_ (fun m' hm' => .inl hm')
  · rw [h.cl x dx hx, hp]
    unfold pcl
    rw [if_neg (fun hh => by have := hh.2.1; omega), if_pos ⟨hpre, by omega, fun e => hne e.symm⟩]
    exact claims_in (fun e => by rw [e] at hl; simp at hl; omega) hpre hne
  · intro b d hbd hdp
    unfold pcl
    by_cases hh : d.path <+: m.key ∧ d.path.length ≤ j ∧ d.path ≠ m.key
    · rw [if_pos hh, if_pos ⟨hh.1, by omega, hh.2.2⟩]
    · rw [if_neg hh, if_neg]
      rintro ⟨h1, h2, h3⟩
      by_cases h4 : d.path.length ≤ j
      · exact hh ⟨h1, h4, h3⟩
      · have := hb b d hbd h1 (by omega) h2
        refine hdp ?_
        rw [hp, ← this]
        exact prefix_take h1

/-! ### the leaf -/
theorem St.leaf {w w' : World} {T : Tree} {r c a x K : Nat} {da : Nd} {S : List Clm} {m : Clm} {j : Nat} {s : ByteArray} {e : Bool} {g : ByteArray → Option Nat} {mo' : Option Nat} (h : St w T r c S (pcl S m j)) (ha : T a = some da) (hp : da.path = m.key.take j) (hj : j < m.key.length)
    (hd : ∀ s ∈ m.key, StepOk s) (hst : m.key[j]? = some (s, e)) (hno : ∀ y, ¬ Child T a (s, e) y) (hg : ∀ s, s.size ≤ maxLen → ∀ x, g s = some x ↔ Child T a (s, false) x) (hK : KeyRow w K m.key) (hx : w.heap.size ≤ x)
    (ha' : w'.heap[a]? = some (.cells (nodeArr (edgeV da) (ptrV da.par) (.map mo') (ptrV (if e then some x else da.each)) da.cl) 57 (0, 0)))
    (hx' : w'.heap[x]? = some (.cells (nodeArr (.slice (some ⟨K, j * 2, none⟩) (m.key.length - j) (m.key.length - j)) (ptrV (some a)) (.map none) (ptrV none) ⟨0, 0, 0, 0⟩) 57 (0, 0)))
    (hN : NamedIs w' mo' (c + 1) (held g s e x)) (hmo : mo' = da.mp ∨ (da.mp = none ∧ ∃ m, mo' = some m ∧ w.heap.size ≤ m)) (hF : Fr (fun k => k = a ∨ da.mp = some k) w w') :
    ∃ T' dx, T' x = some dx ∧ dx.path = m.key ∧ dx.cl = ⟨0, 0, 0, 0⟩ ∧ w'.heap[x]? = some (.cells (nodeArr (edgeV dx) (ptrV dx.par) (.map dx.mp) (ptrV dx.each) dx.cl) 57 (0, 0)) ∧ St w' T' r (c + 1) S (pcl S m m.key.length) ∧ Ex w T w' T' := by
  obtain ⟨dx, hdx⟩ : ∃ dx : Nd, dx = { path := m.key, par := some a, elen := m.key.length - j, K := K, o := j, cap := m.key.length - j, mp := none, each := none, cl := ⟨0, 0, 0, 0⟩ } := ⟨_, rfl⟩
  have dpath : dx.path = m.key := by rw [hdx]
  have dpar : dx.par = some a := by rw [hdx]
  have dmp : dx.mp = none := by rw [hdx]
  have deach : dx.each = none := by rw [hdx]
  have dK : dx.K = K := by rw [hdx]
  have do' : dx.o = j := by rw [hdx]
  have dcap : dx.cap = m.key.length - j := by rw [hdx]
  have delen : dx.elen = m.key.length - j := by rw [hdx]
  have dcl : dx.cl = ⟨0, 0, 0, 0⟩ := by rw [hdx]
  have dedge : edgeV dx = .slice (some ⟨K, j * 2, none⟩) (m.key.length - j) (m.key.length - j) := by
    unfold edgeV
    rw [if_neg (by omega), dK, do', delen, dcap]
  clear hdx
  have hal := h.rep.lt ha
  have hax : a ≠ x := by omega
  have hxn : T x = none := by
    cases hh : T x with
    | none => rfl
    | some d => have := h.rep.lt hh; omega
  have hf : dx.fst = some (s, e) := by
    unfold Nd.fst
    rw [dpath, delen, ← hst]; congr 1; omega
  have hpre1 : da.path ++ [(s, e)] <+: m.key := by
    have : da.path ++ [(s, e)] = m.key.take (j + 1) := by rw [List.take_add_one, hp, hst]; rfl
    rw [this]; exact List.take_prefix _ _
  -- no node lies below a by that step
  have hbelow : ∀ b d, T b = some d → ¬ da.path ++ [(s, e)] <+: d.path := by
    intro b d hb hpre
    obtain ⟨y, dy, k1, k2, k3, _⟩ := h.ok.descend d.path.length b d a da (s, e) (Nat.le_refl _) hb ha hpre
    exact hno y ⟨dy, k1, k2, k3⟩
  have hnp : ∀ b d, T b = some d → d.path ≠ dx.path := by
    intro b d hb e1
    exact hbelow b d hb (by rw [e1, dpath]; exact hpre1)
  have hOk := leaf_ok (mo' := mo') (co' := if e then some x else da.each) h.ok ha hax hxn dpar hf (by omega) (by rw [dpath]; omega) (by rw [dpath, hp, delen]; congr 1; omega) hno hnp (by rw [dpath]; exact hd)
  have hso : StepOk (s, e) := hd _ (List.mem_of_getElem? hst)
  have hRep := leaf_rep (mo' := mo') h.ok h.rep ha hx dpar hf (by omega) dmp deach hso hno hg ⟨m.key, by rw [dK]; exact hK, by omega, by omega, by
      rw [do', dpath, delen, List.take_of_length_le (by rw [List.length_drop]; exact Nat.le_refl _)]; congr 1; omega⟩ ha' (by rw [dedge, dcl]; exact hx') hN hmo hF
  have hxat : leafT T a x da dx mo' (if e then some x else da.each) x = some dx := by unfold leafT; rw [upd_same]
  refine ⟨_, dx, hxat, dpath, dcl, by rw [dedge, dpar, dmp, deach, dcl]; exact hx', ⟨hOk, hRep, ?_, ?_⟩, ?_, ?_, ?_⟩
  · intro m' hm'
    obtain ⟨b, d, h1, h2⟩ := h.cov m' hm'
    have hbx : b ≠ x := by rintro rfl; rw [hxn] at h1; cases h1
    obtain ⟨d', k1, k2, _⟩ := leaf_new (dx := dx) (mo' := mo') (co' := if e then some x else da.each) ha hbx h1
    exact ⟨b, d', k1, by rw [k2]; exact h2⟩
  · intro b d hb
    by_cases hbx : b = x
    · subst hbx
      rw [hxat] at hb; injection hb with hb; subst hb
      rw [dcl, dpath]
      unfold pcl
      rw [if_neg (fun hh => hh.2.2 rfl), claims_none]
      intro m' hm' hpr
      obtain ⟨b', d', h1, h2⟩ := h.cov m' hm'
      exact hbelow b' d' h1 (by rw [h2]; exact hpre1.trans hpr)
    · obtain ⟨d0, g1, g2, _, _, _, _, _, g8⟩ := leaf_old ha hax hbx hb
      rw [g8, g2, h.cl b d0 g1]
      unfold pcl
      by_cases hh : d0.path <+: m.key ∧ d0.path.length ≤ j ∧ d0.path ≠ m.key
      · rw [if_pos hh, if_pos ⟨hh.1, by omega, hh.2.2⟩]
      · rw [if_neg hh, if_neg]
        rintro ⟨h1, h2, h3⟩
        by_cases h4 : d0.path.length ≤ j
        · exact hh ⟨h1, h4, h3⟩
        · refine hbelow b d0 g1 ?_
          have e1 : da.path ++ [(s, e)] = m.key.take (j + 1) := by rw [List.take_add_one, hp, hst]; rfl
          rw [e1, prefix_take h1]
          exact List.take_prefix_take_left (by omega)
  · refine hF.mono (fun k _ hk => ?_)
    rcases hk with rfl | hk
    · exact .inl ⟨da, ha⟩
    · exact .inr ⟨a, da, ha, hk⟩
  · intro b d hbd
    have hbx : b ≠ x := by rintro rfl; rw [hxn] at hbd; cases hbd
    obtain ⟨d', k1, k2, _⟩ := leaf_new (dx := dx) (mo' := mo') (co' := if e then some x else da.each) ha hbx hbd
    exact ⟨d', k1, k2⟩
  · rintro i hi (⟨d, hd⟩ | ⟨b, d, hd, hm⟩)
    · rcases leaf_get ha hax hd with ⟨rfl, _⟩ | ⟨rfl, _⟩ | ⟨_, _, h3⟩
      · omega
      · exact .inl ⟨da, ha⟩
      · exact .inl ⟨d, h3⟩
    · rcases leaf_get ha hax hd with ⟨rfl, rfl⟩ | ⟨rfl, rfl⟩ | ⟨_, _, h3⟩
      · rw [dmp] at hm; cases hm
      · have hm : mo' = some i := hm
        rcases hmo with e1 | ⟨_, m1, e1, e2⟩
        · exact .inr ⟨b, da, ha, by rw [← e1]; exact hm⟩
        · rw [hm] at e1; injection e1 with e1; omega
      · exact .inr ⟨b, d, h3, hm⟩

/-! ### the split -/
theorem St.split {w w' : World} {T : Tree} {r c P n x s : Nat} {dP dn : Nd} {S : List Clm} {m : Clm} {j : Nat} {s0 s1 : ByteArray} {e0 e1 : Bool} {g : ByteArray → Option Nat} (h : St w T r c S (pcl S m j)) (h0 : ∀ m ∈ S, m.place ≠ 0) (hP : T P = some dP) (hp : dP.path = m.key.take j) (hj : j + s ≤ m.key.length)
    (hn : T n = some dn) (hpar : dn.par = some P) (hs0 : 0 < s) (hs1 : s < dn.elen) (hmade : dn.path.take (dn.path.length - dn.elen + s) = m.key.take (j + s)) (hst0 : dn.fst = some (s0, e0)) (hst1 : dn.path[dn.path.length - dn.elen + s]? = some (s1, e1))
    (hg : ∀ s, s.size ≤ maxLen → ∀ x, g s = some x ↔ Child T P (s, false) x)
    (hpost : SplitPost n P (edgeV dP) (ptrV dP.par) dP.mp dP.each c g dP.cl dn.K (dn.o * 2) dn.elen dn.cap s (.map dn.mp) (ptrV dn.each) dn.cl s0 s1 e0 e1 w w' x) :
    ∃ T' dx, T' x = some dx ∧ dx.path = m.key.take (j + s) ∧ St w' T' r (c + 1) S (pcl S m j) ∧ Ex w T w' T' ∧ (∀ b d, T' b = some d → d.path <+: m.key → j < d.path.length → d.path.length ≤ j + s → d.path.length = j + s) := by
  obtain ⟨mo', moX, hx, hP', hNP, hmo, hn', hx', hNX, hmX, hF⟩ := hpost
  have hxn : T x = none := by
    cases hh : T x with
    | none => rfl
    | some d => have := h.rep.lt hh; omega
  have C : Cut T r P n x s dP dn := ⟨h.ok, hP, hn, hpar, hs0, hs1, hxn⟩
  obtain ⟨hl1, hl2, hl3⟩ := C.lens
  have hpl : dP.path.length = dn.path.length - dn.elen := by rw [hl3, List.length_take]; omega
  have hjl : dP.path.length = j := by rw [hp, List.length_take]; omega
  have hdnl : dn.path.length = j + dn.elen := by omega
  have hOk := C.tree mo' (if e0 then some x else dP.each) moX (if e1 then some n else none)
  have hRep := C.rep h.rep hst0 hst1 hx hg hP' hNP hmo hn' hx' hNX hmX hF
  have hpre0 : dP.path ++ [(s0, e0)] <+: dn.path := by
    have : dP.path ++ [(s0, e0)] = dn.path.take (dn.path.length - dn.elen + 1) := by
      unfold Nd.fst at hst0
      rw [List.take_add_one, hst0, hl3]; rfl
    rw [this]; exact List.take_prefix _ _
  have hml : (m.key.take (j + s)).length = j + s := by rw [List.length_take]; omega
  have hpre1 : dP.path ++ [(s0, e0)] <+: m.key.take (j + s) := by
    rw [← hmade, prefix_take hpre0]
    exact List.take_prefix_take_left (by simp only [List.length_append, List.length_cons, List.length_nil]; omega)
  -- what lies below P by that step lies below n
  have hbelow : ∀ b d, T b = some d → m.key.take (j + s) <+: d.path → dn.path <+: d.path := by
    intro b d hb hpre
    obtain ⟨y, dy, k1, k2, k3, k4, _⟩ := h.ok.descend d.path.length b d P dP (s0, e0) (Nat.le_refl _) hb hP (hpre1.trans hpre)
    have : y = n := h.ok.uniq P _ y n ⟨dy, k1, k2, k3⟩ ⟨dn, hn, hpar, hst0⟩
    subst this
    rw [hn] at k1; injection k1 with k1; subst k1
    exact k4
  have hbet : ∀ b d, T b = some d → d.path <+: m.key → j < d.path.length → d.path.length ≤ j + s → False := by
    intro b d hb h1 h2 h3
    have e1 : dP.path ++ [(s0, e0)] <+: d.path := by
      rw [prefix_take h1]
      have e2 := prefix_take (hpre1.trans (List.take_prefix _ _))
      rw [e2]
      exact List.take_prefix_take_left (by simp only [List.length_append, List.length_cons, List.length_nil]; omega)
    obtain ⟨y, dy, k1, k2, k3, k4, _⟩ := h.ok.descend d.path.length b d P dP (s0, e0) (Nat.le_refl _) hb hP e1
    have : y = n := h.ok.uniq P _ y n ⟨dy, k1, k2, k3⟩ ⟨dn, hn, hpar, hst0⟩
    subst this
    rw [hn] at k1; injection k1 with k1; subst k1
    have := k4.length_le
    omega
  refine ⟨_, _, split_at_x T P n x _ _ _, hmade, ⟨hOk, hRep, ?_, ?_⟩, ⟨?_, ?_, ?_⟩, ?_⟩
  · intro m' hm'
    obtain ⟨b, d, h1, h2⟩ := h.cov m' hm'
    obtain ⟨d', k1, k2, _⟩ := C.has mo' (if e0 then some x else dP.each) moX (if e1 then some n else none) h1
    exact ⟨b, d', k1, by rw [k2]; exact h2⟩
  · intro b d hb
    by_cases hbx : b = x
    · subst hbx
      rw [split_at_x] at hb; injection hb with hb; subst hb
      show dn.cl.around = pcl S m j (dn.path.take (dn.path.length - dn.elen + s))
      rw [hmade, h.cl n dn hn]
      unfold pcl
      rw [if_neg (fun hh => by have := hh.2.1; omega), if_neg (fun hh => by have := hh.2.1; omega)]
      refine claims_split h0 (fun e => by rw [e] at hml; simp at hml; omega) (by rw [← hmade]; exact List.take_prefix _ _) (fun e => by have := congrArg List.length e; omega) ?_
      intro m' hm' hpr
      obtain ⟨b', d', h1, h2⟩ := h.cov m' hm'
      rw [← h2]
      exact hbelow b' d' h1 (by rw [h2]; exact hpr)
    · obtain ⟨d0, g1, g2, g3⟩ := C.oldPath hbx hb
      rw [g3, g2]; exact h.cl b d0 g1
  · refine hF.mono (fun k _ hk => ?_)
    rcases hk with rfl | rfl | hk
    · exact .inl ⟨dP, hP⟩
    · exact .inl ⟨dn, hn⟩
    · exact .inr ⟨P, dP, hP, hk⟩
  · intro b d hbd
    obtain ⟨d', k1, k2, _⟩ := C.has mo' (if e0 then some x else dP.each) moX (if e1 then some n else none) hbd
    exact ⟨d', k1, k2⟩
  · rintro i hi (⟨d, hd⟩ | ⟨b, d, hd, hm⟩)
    · by_cases hix : i = x
      · omega
      · obtain ⟨d0, g1, _⟩ := C.oldPath hix hd
        exact .inl ⟨d0, g1⟩
    · rcases split_get hd with ⟨rfl, rfl⟩ | ⟨_, rfl, rfl⟩ | ⟨_, _, rfl, rfl⟩ | ⟨_, _, _, h4⟩
      · have := (hmX i hm).1; omega
      · exact .inr ⟨b, dn, hn, hm⟩
      · have hm : mo' = some i := hm
        rcases hmo with e1 | ⟨_, m1, e1, e2⟩
        · exact .inr ⟨b, dP, hP, by rw [← e1]; exact hm⟩
        · rw [hm] at e1; injection e1 with e1; omega
      · exact .inr ⟨b, d, h4, hm⟩
  · intro b d hb h1 h2 h3
    by_cases hbx : b = x
    · subst hbx
      rw [split_at_x] at hb; injection hb with hb; subst hb
      show (dn.path.take (dn.path.length - dn.elen + s)).length = _
      rw [hmade]; exact hml
    · obtain ⟨d0, g1, g2, _⟩ := C.oldPath hbx hb
      rw [g2] at h1 h2 h3
      exact (hbet b d0 g1 h1 h2 h3).elim
/-- No split: the node below, whose whole edge is the key's next steps. -/
theorem St.next {w : World} {T : Tree} {r c P n : Nat} {dP dn : Nd} {S : List Clm} {m : Clm} {j : Nat} {st : Step} (h : St w T r c S (pcl S m j)) (hP : T P = some dP) (hp : dP.path = m.key.take j) (hj : j + dn.elen ≤ m.key.length)
    (hn : T n = some dn) (hpar : dn.par = some P) (hst : dn.fst = some st) (hmk : m.key[j]? = some st) :
    ∀ b d, T b = some d → d.path <+: m.key → j < d.path.length → d.path.length ≤ j + dn.elen → d.path.length = j + dn.elen := by
  intro b d hb h1 h2 h3
  have e1 : dP.path ++ [st] <+: d.path := by
    have : dP.path ++ [st] = m.key.take (j + 1) := by rw [List.take_add_one, hp, hmk]; rfl
    rw [this, prefix_take h1]
    exact List.take_prefix_take_left (by omega)
  obtain ⟨y, dy, k1, k2, k3, k4, k5⟩ := h.ok.descend d.path.length b d P dP st (Nat.le_refl _) hb hP e1
  have : y = n := h.ok.uniq P _ y n ⟨dy, k1, k2, k3⟩ ⟨dn, hn, hpar, hst⟩
  subst this
  rw [hn] at k1; injection k1 with k1; subst k1
  have := k4.length_le
  have : dP.path.length = j := by rw [hp, List.length_take]; omega
  omega
end Go.Proofs.Qxb6602090a
