/-
  Seat b6602090a: the tree of fields as a ghost: plain laws, and how it lies in memory.
-/
import Derived.Test.Qxb6602090aSplit
namespace Go.Proofs.Qxb6602090a
open Go.RowKit Go.Maps

abbrev Key := List Step

/-- A node: its whole path, its parent's block, its edge (length; the key's row, from which step on, the slice's capacity), its map's block, its child at [*], its claims. -/
structure Nd where
  path : Key
  par : Option Nat
  elen : Nat
  K : Nat
  o : Nat
  cap : Nat
  mp : Option Nat
  each : Option Nat
  cl : Cl
/-- The tree: which block is which node. -/
abbrev Tree := Nat → Option Nd
def upd (T : Tree) (b : Nat) (d : Nd) : Tree := fun k => if k = b then some d else T k
theorem upd_same (T : Tree) (b : Nat) (d : Nd) : upd T b d b = some d := by simp [upd]
theorem upd_other (T : Tree) {b k : Nat} (d : Nd) (h : k ≠ b) : upd T b d k = T k := by simp [upd, h]

/-- The first step of a node's edge. -/
def Nd.fst (d : Nd) : Option Step := d.path[d.path.length - d.elen]?
/-- x is the child of p whose edge begins with s. -/
def Child (T : Tree) (p : Nat) (s : Step) (x : Nat) : Prop := ∃ d, T x = some d ∧ d.par = some p ∧ d.fst = some s

/-- A step is of the documented domain: [*] bears no name; a name is a string. -/
def StepOk (s : Step) : Prop := (s.2 = true → s.1 = ByteArray.empty) ∧ s.1.size ≤ maxLen

structure Ok (T : Tree) (r : Nat) : Prop where
  root : ∃ d, T r = some d ∧ d.path = [] ∧ d.par = none ∧ d.elen = 0
  par : ∀ b d, T b = some d → b ≠ r → ∃ p dp, d.par = some p ∧ T p = some dp ∧ 0 < d.elen ∧ d.elen ≤ d.path.length ∧ dp.path = d.path.take (d.path.length - d.elen)
  inj : ∀ b d b' d', T b = some d → T b' = some d' → d.path = d'.path → b = b'
  uniq : ∀ p s x y, Child T p s x → Child T p s y → x = y
  dom : ∀ b d, T b = some d → ∀ s ∈ d.path, StepOk s

theorem getElem?_of_prefix {α : Type} {a b : List α} (h : a <+: b) {i : Nat} (hi : i < a.length) : b[i]? = a[i]? := by
  obtain ⟨t, rfl⟩ := h
  rw [List.getElem?_append_left hi]

theorem prefix_take {α : Type} {a b : List α} (h : a <+: b) : a = b.take a.length := by
  obtain ⟨t, rfl⟩ := h; simp

/-- A NODE THAT LIES BELOW p THROUGH STEP s LIES BELOW p's CHILD AT s. -/
theorem Ok.descend {T : Tree} {r : Nat} (h : Ok T r) : ∀ (N b : Nat) (d : Nd) (p : Nat) (dp : Nd) (s : Step), d.path.length ≤ N → T b = some d → T p = some dp → dp.path ++ [s] <+: d.path →
    ∃ x dx, T x = some dx ∧ dx.par = some p ∧ dx.fst = some s ∧ dx.path <+: d.path ∧ dx.path.length = dp.path.length + dx.elen := by
  intro N
  induction N with
  | zero =>
    intro b d p dp s hN hb hp hpre
    have := hpre.length_le
    simp at this; omega
  | succ N ih =>
    intro b d p dp s hN hb hp hpre
    have hlen := hpre.length_le
    simp only [List.length_append, List.length_cons, List.length_nil] at hlen
    have hbr : b ≠ r := by
      rintro rfl
      obtain ⟨dr, h1, h2, _⟩ := h.root
      rw [hb] at h1; injection h1 with h1; subst h1
      rw [h2] at hlen; simp at hlen
    obtain ⟨q, dq, hq1, hq2, he0, hel, hqp⟩ := h.par b d hb hbr
    have hql : dq.path.length = d.path.length - d.elen := by rw [hqp, List.length_take]; omega
    have hpp : dp.path <+: d.path := (List.prefix_append _ _).trans hpre
    have hqd : dq.path <+: d.path := by rw [hqp]; exact List.take_prefix _ _
    have hstep : d.path[dp.path.length]? = some s := by
      rw [getElem?_of_prefix hpre (by simp), List.getElem?_append_right (Nat.le_refl _)]; simp
    rcases Nat.lt_trichotomy dq.path.length dp.path.length with hlt | heq | hgt
    · -- p lies within b's edge: then b's parent has a child above p at the same step
      exfalso
      have hqp2 : dq.path <+: dp.path := by
        rw [prefix_take hqd, prefix_take hpp]
        exact List.take_prefix_take_left (by omega)
      obtain ⟨t, ht⟩ : ∃ t, dp.path[dq.path.length]? = some t := ⟨_, List.getElem?_eq_getElem hlt⟩
      have hpre2 : dq.path ++ [t] <+: dp.path := by
        have e1 : dq.path ++ [t] = dp.path.take (dq.path.length + 1) := by
          rw [List.take_add_one, ← prefix_take hqp2, ht]; rfl
        rw [e1]; exact List.take_prefix _ _
      obtain ⟨x, dx, hx1, hx2, hx3, hx4, hx5⟩ := ih p dp q dq t (by omega) hp hq2 hpre2
      have hbx : b = x := h.uniq q t b x ⟨d, hb, hq1, by
        unfold Nd.fst
        rw [← hql, getElem?_of_prefix hpp hlt]; exact ht⟩ ⟨dx, hx1, hx2, hx3⟩
      subst hbx
      rw [hb] at hx1; injection hx1 with hx1; subst hx1
      have := hx4.length_le
      omega
    · have e : dq.path = dp.path := by rw [prefix_take hqd, prefix_take hpp, heq]
      have hqp3 := h.inj q dq p dp hq2 hp e
      subst hqp3
      refine ⟨b, d, hb, hq1, ?_, List.prefix_refl _, by omega⟩
      unfold Nd.fst
      rw [← hql, heq]; exact hstep
    · have hpre2 : dp.path ++ [s] <+: dq.path := by
        rw [prefix_take hpre, prefix_take hqd]
        exact List.take_prefix_take_left (by simp; omega)
      obtain ⟨x, dx, hx1, hx2, hx3, hx4, hx5⟩ := ih q dq p dp s (by omega) hq2 hp hpre2
      exact ⟨x, dx, hx1, hx2, hx3, hx4.trans hqd, hx5⟩

/-! ### In memory -/
/-- The row of a key's steps. -/
def KeyRow (w : World) (K : Nat) (ks : Key) : Prop :=
  ∃ arr, w.heap[K]? = some (.cells arr 59 (0, 0)) ∧ ∀ i s, ks[i]? = some s → arr[i * 2]? = some (.string s.1) ∧ arr[i * 2 + 1]? = some (.bool s.2)
theorem KeyRow.keep {w w' : World} {K : Nat} {ks : Key} (h : KeyRow w K ks) (hb : w'.heap[K]? = w.heap[K]?) : KeyRow w' K ks := by
  obtain ⟨arr, h1, h2⟩ := h
  exact ⟨arr, hb.trans h1, h2⟩
theorem KeyRow.lt {w : World} {K : Nat} {ks : Key} (h : KeyRow w K ks) : K < w.heap.size := by obtain ⟨arr, h1, _⟩ := h; exact blk_lt h1
theorem KeyRow.steps {w : World} {K : Nat} {ks A : Key} {o : Nat} (h : KeyRow w K ks) (hA : ∀ i s, A[i]? = some s → ks[o + i]? = some s) : StepsAt w K (o * 2) A := by
  obtain ⟨arr, h1, h2⟩ := h
  intro i s hi
  obtain ⟨a, b⟩ := h2 (o + i) s (hA i s hi)
  rw [blk_cell h1, blk_cell h1, show o * 2 + i * 2 = (o + i) * 2 from by omega]
  exact ⟨a, b⟩
theorem KeyRow.ne {w : World} {K b : Nat} {ks : Key} {arr : Array Value} (h : KeyRow w K ks) (hb : w.heap[b]? = some (.cells arr 57 (0, 0))) : K ≠ b := by
  rintro rfl
  obtain ⟨ar, h1, _⟩ := h
  rw [hb] at h1
  injection h1 with h1
  injection h1 with _ h1
  cases h1
theorem KeyRow.neMap {w : World} {K m n : Nat} {ks : Key} {g : ByteArray → Option Nat} (h : KeyRow w K ks) (hm : NamedIs w (some m) n g) : K ≠ m := by
  obtain ⟨ar, h1, _⟩ := h
  exact fun e => hm.ne h1 e.symm

def edgeV (d : Nd) : Value := if d.elen = 0 then .slice none 0 0 else .slice (some ⟨d.K, d.o * 2, none⟩) d.elen d.cap

structure Rep (w : World) (T : Tree) (c : Nat) : Prop where
  cell : ∀ b d, T b = some d → w.heap[b]? = some (.cells (nodeArr (edgeV d) (ptrV d.par) (.map d.mp) (ptrV d.each) d.cl) 57 (0, 0))
  edge : ∀ b d, T b = some d → 0 < d.elen → ∃ ks, KeyRow w d.K ks ∧ d.o + d.elen ≤ ks.length ∧ d.cap + d.o = ks.length ∧ (ks.drop d.o).take d.elen = d.path.drop (d.path.length - d.elen)
  named : ∀ b d, T b = some d → ∃ g, NamedIs w d.mp c g ∧ ∀ s, s.size ≤ maxLen → ∀ x, g s = some x ↔ Child T b (s, false) x
  each : ∀ b d, T b = some d → ∀ x, d.each = some x ↔ Child T b (ByteArray.empty, true) x
  apart : ∀ b d b' d' m, T b = some d → T b' = some d' → d.mp = some m → d'.mp = some m → b = b'

/-- The blocks of the tree that are written. -/
def Foot (T : Tree) (k : Nat) : Prop := (∃ d, T k = some d) ∨ ∃ b d, T b = some d ∧ d.mp = some k

theorem Rep.lt {w : World} {T : Tree} {c : Nat} (h : Rep w T c) {b : Nat} {d : Nd} (hb : T b = some d) : b < w.heap.size := blk_lt (h.cell b d hb)
theorem Rep.foot_lt {w : World} {T : Tree} {c : Nat} (h : Rep w T c) {k : Nat} (hk : Foot T k) : k < w.heap.size := by
  rcases hk with ⟨d, hd⟩ | ⟨b, d, hb, hm⟩
  · exact h.lt hd
  · obtain ⟨g, hg, _⟩ := h.named b d hb
    rw [hm] at hg
    exact hg.lt
/-- A block of cells of another kind is none of the tree's. -/
theorem Rep.not_foot {w : World} {T : Tree} {c : Nat} (h : Rep w T c) {k : Nat} {arr : Array Value} {t : TypeId} (hk : w.heap[k]? = some (.cells arr t (0, 0))) (ht : t ≠ 57) : ¬ Foot T k := by
  rintro (⟨d, hd⟩ | ⟨b, d, hb, hm⟩)
  · have := h.cell k d hd
    rw [hk] at this
    injection this with this
    injection this with _ h2
    exact ht h2
  · obtain ⟨g, hg, _⟩ := h.named b d hb
    rw [hm] at hg
    exact hg.ne hk rfl
/-- What keeps the tree's blocks and the keys' rows keeps the tree. -/
theorem Rep.keep {w w' : World} {T : Tree} {c : Nat} (h : Rep w T c) (hw : Fr (fun _ => False) w w') : Rep w' T c where
  cell b d hb := by rw [hw.block b (h.lt hb) (fun f => f)]; exact h.cell b d hb
  edge b d hb he := by
    obtain ⟨ks, h1, h2⟩ := h.edge b d hb he
    exact ⟨ks, h1.keep (hw.block _ h1.lt (fun f => f)), h2⟩
  named b d hb := by
    obtain ⟨g, hg, h2⟩ := h.named b d hb
    refine ⟨g, hg.keep (fun m hm => hw.block m ?_ (fun f => f)), h2⟩
    rw [hm] at hg; exact hg.lt
  each := h.each
  apart := h.apart
end Go.Proofs.Qxb6602090a
