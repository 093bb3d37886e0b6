/-
  Seat b6602090a: what a node's claims are, plainly.
-/
import Derived.Test.Qxb6602090aPart
namespace Go.Proofs.Qxb6602090a
open Go.RowKit Go.Maps

/-- A call of the script. -/
structure Clm where
  key : Key
  place : Int
  deny : Bool

/-- The set's summary. -/
def sm (l : List Int) : Int := l.foldl addc 0

theorem fold_addc {c : Int} (hc : c ≠ 0) (l : List Int) : l.foldl addc c = if ∀ p ∈ l, p = c then c else -1 := by
  induction l generalizing c with
  | nil => simp
  | cons p l ih =>
    rw [List.foldl_cons]
    by_cases h : c = p
    · have e : addc c p = c := by unfold addc; rw [if_neg hc, if_pos h]
      rw [e, ih hc]
      subst h
      simp
    · have e : addc c p = -1 := by unfold addc; rw [if_neg hc, if_neg h]
      rw [e, ih (by omega)]
      have : ¬ ∀ q ∈ p :: l, q = c := fun hh => h (hh p (by simp)).symm
      rw [if_neg this]
      split <;> rfl
theorem sm_cons {p : Int} (hp : p ≠ 0) (l : List Int) : sm (p :: l) = if ∀ q ∈ l, q = p then p else -1 := by
  have e : addc 0 p = p := by unfold addc; rw [if_pos rfl]
  unfold sm
  rw [List.foldl_cons, e, fold_addc hp]
theorem sm_nil : sm [] = 0 := rfl
theorem sm_ne {l : List Int} (h0 : ∀ p ∈ l, p ≠ 0) (hl : l ≠ []) : sm l ≠ 0 := by
  cases l with
  | nil => exact absurd rfl hl
  | cons p l =>
    have hp := h0 p (by simp)
    rw [sm_cons hp]
    split
    · exact hp
    · omega
theorem sm_congr {l r : List Int} (h0 : ∀ p ∈ l, p ≠ 0) (h : ∀ p, p ∈ l ↔ p ∈ r) : sm l = sm r := by
  cases l with
  | nil =>
    cases r with
    | nil => rfl
    | cons q u => exact absurd ((h q).2 (by simp)) (by simp)
  | cons p t =>
    cases r with
    | nil => exact absurd ((h p).1 (by simp)) (by simp)
    | cons q u =>
      have hp := h0 p (by simp)
      have hq := h0 q ((h q).2 (by simp))
      rw [sm_cons hp, sm_cons hq]
      by_cases h1 : ∀ v ∈ t, v = p
      · have all : ∀ v ∈ p :: t, v = p := fun v hv => by
          rcases List.mem_cons.1 hv with e | e
          · exact e
          · exact h1 v e
        have hqp : q = p := all q ((h q).2 (by simp))
        have h2 : ∀ v ∈ u, v = q := fun v hv => by rw [hqp]; exact all v ((h v).2 (by simp [hv]))
        rw [if_pos h1, if_pos h2, hqp]
      · by_cases h2 : ∀ v ∈ u, v = q
        · exfalso
          have all : ∀ v ∈ q :: u, v = q := fun v hv => by
            rcases List.mem_cons.1 hv with e | e
            · exact e
            · exact h2 v e
          have hpq : p = q := all p ((h p).1 (by simp))
          exact h1 fun v hv => by rw [hpq]; exact all v ((h v).1 (by simp [hv]))
        · rw [if_neg h1, if_neg h2]
theorem sm_snoc (l : List Int) (p : Int) : sm (l ++ [p]) = addc (sm l) p := by
  unfold sm
  rw [List.foldl_append]; rfl
theorem join_zero (v : Int) : joinc 0 v = v := by
  unfold joinc addc
  split
  · rename_i h; exact h.symm
  · rw [if_pos rfl]
theorem join_sm {l r : List Int} (hl : ∀ p ∈ l, p ≠ 0) (hr : ∀ p ∈ r, p ≠ 0) : joinc (sm l) (sm r) = sm (l ++ r) := by
  cases r with
  | nil => simp [sm_nil, joinc]
  | cons q u =>
    have hq := hr q (by simp)
    have hne := sm_ne hr (by simp)
    unfold joinc
    rw [if_neg hne]
    cases l with
    | nil => unfold addc; simp [sm_nil]
    | cons p t =>
      have hp := hl p (by simp)
      rw [List.cons_append, sm_cons hp (t ++ q :: u), sm_cons hp, sm_cons hq]
      unfold addc
      by_cases h1 : ∀ v ∈ t, v = p
      · rw [if_pos h1, if_neg hp]
        by_cases h2 : ∀ v ∈ u, v = q
        · rw [if_pos h2]
          by_cases h3 : p = q
          · rw [if_pos h3, if_pos]
            intro v hv
            rcases List.mem_append.1 hv with e | e
            · exact h1 v e
            · rcases List.mem_cons.1 e with e | e
              · rw [e, h3]
              · rw [h2 v e, h3]
          · rw [if_neg h3, if_neg]
            intro hh
            exact h3 (hh q (by simp)).symm
        · rw [if_neg h2]
          have h4 : ¬ ∀ v ∈ t ++ q :: u, v = p := fun hh => h2 fun v hv => by rw [hh v (by simp [hv]), hh q (by simp)]
          rw [if_neg h4]
          split
          · rename_i e; exact e
          · rfl
      · have h4 : ¬ ∀ v ∈ t ++ q :: u, v = p := fun hh => h1 fun v hv => hh v (by simp [hv])
        rw [if_neg h1, if_neg h4, if_neg (by omega), ite_self]

/-! ### a node's claims -/
def eqK (q : Key) (m : Clm) : Bool := decide (m.key = q)
def inK (q : Key) (m : Clm) : Bool := decide (q ≠ [] ∧ q <+: m.key ∧ m.key ≠ q)
def pl (f : Clm → Bool) (S : List Clm) : List Int := (S.filter f).map (·.place)
def claimsOf (S : List Clm) (q : Key) : Cl := ⟨sm (pl (eqK q) S), sm (pl (fun m => eqK q m && m.deny) S), sm (pl (inK q) S), sm (pl (fun m => inK q m && m.deny) S)⟩

theorem mem_pl {f : Clm → Bool} {S : List Clm} {p : Int} : p ∈ pl f S ↔ ∃ m ∈ S, f m = true ∧ m.place = p := by
  unfold pl
  rw [List.mem_map]
  constructor
  · rintro ⟨m, h1, h2⟩
    obtain ⟨h3, h4⟩ := List.mem_filter.1 h1
    exact ⟨m, h3, h4, h2⟩
  · rintro ⟨m, h1, h2, h3⟩
    exact ⟨m, List.mem_filter.2 ⟨h1, h2⟩, h3⟩
theorem pl_ne {S : List Clm} (h : ∀ m ∈ S, m.place ≠ 0) (f : Clm → Bool) : ∀ p ∈ pl f S, p ≠ 0 := by
  intro p hp
  obtain ⟨m, h1, _, h3⟩ := mem_pl.1 hp
  rw [← h3]; exact h m h1
theorem pl_snoc (f : Clm → Bool) (S : List Clm) (m : Clm) : pl f (S ++ [m]) = if f m then pl f S ++ [m.place] else pl f S := by
  unfold pl
  rw [List.filter_append]
  by_cases h : f m = true
  · simp [h]
  · simp [h]
theorem sm_pl_snoc (f : Clm → Bool) (S : List Clm) (m : Clm) : sm (pl f (S ++ [m])) = if f m then addc (sm (pl f S)) m.place else sm (pl f S) := by
  rw [pl_snoc]
  split
  · rw [sm_snoc]
  · rfl

/-- Counted again, nothing changes. -/
theorem claims_same {S R : List Clm} (h0 : ∀ m ∈ S, m.place ≠ 0) (h : ∀ m, m ∈ S ↔ m ∈ R) (q : Key) : claimsOf S q = claimsOf R q := by
  have e : ∀ f, sm (pl f S) = sm (pl f R) := fun f => sm_congr (pl_ne h0 f) (fun p => by
    rw [mem_pl, mem_pl]
    constructor
    · rintro ⟨m, h1, h2⟩; exact ⟨m, (h m).1 h1, h2⟩
    · rintro ⟨m, h1, h2⟩; exact ⟨m, (h m).2 h1, h2⟩)
  unfold claimsOf
  rw [e, e, e, e]

/-- A further claim, elsewhere. -/
theorem claims_other {S : List Clm} {m : Clm} {q : Key} (h : ¬ q <+: m.key) : claimsOf (S ++ [m]) q = claimsOf S q := by
  have h1 : eqK q m = false := by
    unfold eqK
    rw [decide_eq_false]
    rintro rfl; exact h (List.prefix_refl _)
  have h2 : inK q m = false := by
    unfold inK
    rw [decide_eq_false]
    exact fun hh => h hh.2.1
  unfold claimsOf
  simp only [sm_pl_snoc, h1, h2, Bool.false_and]
  rfl
/-- .. at the root, but for the root itself. -/
theorem claims_root {S : List Clm} {m : Clm} (h : m.key ≠ []) : claimsOf (S ++ [m]) [] = claimsOf S [] := by
  have h1 : eqK [] m = false := by unfold eqK; rw [decide_eq_false h]
  have h2 : inK [] m = false := by unfold inK; rw [decide_eq_false]; exact fun hh => hh.1 rfl
  unfold claimsOf
  simp only [sm_pl_snoc, h1, h2, Bool.false_and]
  rfl
/-- .. at the claim's own node. -/
theorem claims_at (S : List Clm) (m : Clm) : (claimsOf S m.key).count m.place m.deny false = claimsOf (S ++ [m]) m.key := by
  have h1 : eqK m.key m = true := by unfold eqK; rw [decide_eq_true rfl]
  have h2 : inK m.key m = false := by unfold inK; rw [decide_eq_false]; exact fun hh => hh.2.2 rfl
  unfold claimsOf Cl.count
  simp only [sm_pl_snoc, h1, h2, Bool.false_and, Bool.true_and]
  simp
/-- .. at a node around it. -/
theorem claims_in {S : List Clm} {m : Clm} {q : Key} (hq : q ≠ []) (hp : q <+: m.key) (hne : m.key ≠ q) : (claimsOf S q).count m.place m.deny true = claimsOf (S ++ [m]) q := by
  have h1 : eqK q m = false := by unfold eqK; rw [decide_eq_false hne]
  have h2 : inK q m = true := by unfold inK; rw [decide_eq_true ⟨hq, hp, hne⟩]
  unfold claimsOf Cl.count
  simp only [sm_pl_snoc, h1, h2, Bool.false_and, Bool.true_and]
  simp
theorem pl_nil {f : Clm → Bool} {S : List Clm} (h : ∀ m ∈ S, f m = false) : pl f S = [] := by
  unfold pl
  rw [List.filter_eq_nil_iff.2 (fun m hm => by rw [h m hm]; simp)]
  rfl
/-- No claim at q nor within. -/
theorem claims_none {S : List Clm} {q : Key} (h : ∀ m ∈ S, ¬ q <+: m.key) : claimsOf S q = ⟨0, 0, 0, 0⟩ := by
  have h1 : ∀ m ∈ S, eqK q m = false := fun m hm => by
    unfold eqK
    rw [decide_eq_false]
    rintro rfl; exact h m hm (List.prefix_refl _)
  have h2 : ∀ m ∈ S, inK q m = false := fun m hm => by
    unfold inK
    rw [decide_eq_false]
    exact fun hh => h m hm hh.2.1
  unfold claimsOf
  rw [pl_nil h1, pl_nil h2, pl_nil (fun m hm => by rw [h1 m hm]; rfl), pl_nil (fun m hm => by rw [h2 m hm]; rfl)]
  rfl
/-- The node that a split makes: each claim within it is a claim at the node below, or within that. -/
theorem claims_split {S : List Clm} {q n : Key} (h0 : ∀ m ∈ S, m.place ≠ 0) (hq : q ≠ []) (hqn : q <+: n) (hne : q ≠ n) (h : ∀ m ∈ S, q <+: m.key → n <+: m.key) : (claimsOf S n).around = claimsOf S q := by
  have hlt : q.length < n.length := by
    rcases Nat.lt_or_ge q.length n.length with hh | hh
    · exact hh
    · exact absurd (hqn.eq_of_length_le hh) hne
  have hn0 : n ≠ [] := by rintro rfl; simp at hlt
  have h1 : ∀ m ∈ S, eqK q m = false := fun m hm => by
    unfold eqK
    rw [decide_eq_false]
    rintro rfl
    have := (h m hm (List.prefix_refl _)).length_le
    omega
  have h2 : ∀ m ∈ S, (inK q m = true ↔ eqK n m = true ∨ inK n m = true) := fun m hm => by
    unfold inK eqK
    rw [decide_eq_true_iff, decide_eq_true_iff, decide_eq_true_iff]
    constructor
    · rintro ⟨_, k1, k2⟩
      by_cases e : m.key = n
      · exact .inl e
      · exact .inr ⟨hn0, h m hm k1, e⟩
    · rintro (e | ⟨_, k1, k2⟩)
      · rw [e]; exact ⟨hq, hqn, fun e => hne e.symm⟩
      · refine ⟨hq, hqn.trans k1, fun e => ?_⟩
        have := k1.length_le
        rw [e] at this; omega
  have e1 : sm (pl (eqK n) S ++ pl (inK n) S) = sm (pl (inK q) S) := by
    refine (sm_congr (pl_ne h0 _) (fun p => ?_)).symm
    rw [List.mem_append, mem_pl, mem_pl, mem_pl]
    constructor
    · rintro ⟨m, k1, k2, k3⟩
      rcases (h2 m k1).1 k2 with e | e
      · exact .inl ⟨m, k1, e, k3⟩
      · exact .inr ⟨m, k1, e, k3⟩
    · rintro (⟨m, k1, k2, k3⟩ | ⟨m, k1, k2, k3⟩)
      · exact ⟨m, k1, (h2 m k1).2 (.inl k2), k3⟩
      · exact ⟨m, k1, (h2 m k1).2 (.inr k2), k3⟩
  have e2 : sm (pl (fun m => eqK n m && m.deny) S ++ pl (fun m => inK n m && m.deny) S) = sm (pl (fun m => inK q m && m.deny) S) := by
    refine (sm_congr (pl_ne h0 _) (fun p => ?_)).symm
    rw [List.mem_append, mem_pl, mem_pl, mem_pl]
    constructor
    · rintro ⟨m, k1, k2, k3⟩
      obtain ⟨k2, k4⟩ := Bool.and_eq_true_iff.1 k2
      rcases (h2 m k1).1 k2 with e | e
      · exact .inl ⟨m, k1, by rw [e, k4]; rfl, k3⟩
      · exact .inr ⟨m, k1, by rw [e, k4]; rfl, k3⟩
    · rintro (⟨m, k1, k2, k3⟩ | ⟨m, k1, k2, k3⟩)
      · obtain ⟨k2, k4⟩ := Bool.and_eq_true_iff.1 k2
        exact ⟨m, k1, by rw [(h2 m k1).2 (.inl k2), k4]; rfl, k3⟩
      · obtain ⟨k2, k4⟩ := Bool.and_eq_true_iff.1 k2
        exact ⟨m, k1, by rw [(h2 m k1).2 (.inr k2), k4]; rfl, k3⟩
  unfold claimsOf Cl.around
  simp only
  rw [join_zero, join_zero, join_sm (pl_ne h0 _) (pl_ne h0 _), join_sm (pl_ne h0 _) (pl_ne h0 _), e1, e2, pl_nil h1, pl_nil (f := fun m => eqK q m && m.deny) (fun m hm => by rw [h1 m hm]; rfl)]
  rfl
end Go.Proofs.Qxb6602090a
