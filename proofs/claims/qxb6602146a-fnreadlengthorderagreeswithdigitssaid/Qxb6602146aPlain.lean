/-
  Seat b6602146a: the plain laws on digit texts. No Go in sight.
-/
namespace Go.Proofs.Qxb6602146a

/-- The t lowest decimal digits of m, as bytes, the highest of them first. -/
def lows (m : Nat) : Nat → List UInt8
  | 0 => []
  | t+1 => UInt8.ofNat (48 + (m / 10^t) % 10) :: lows m t
theorem lows_length (m t : Nat) : (lows m t).length = t := by
  induction t with
  | zero => rfl
  | succ t ih => simp [lows, ih]

theorem dig_toNat (k : Nat) : (UInt8.ofNat (48 + k % 10)).toNat = 48 + k % 10 := by
  have hm : k % 10 < 10 := Nat.mod_lt _ (by omega)
  rw [UInt8.toNat_ofNat_of_lt' (by show _ < 256; omega)]

def digB (c : UInt8) : Bool := decide (48 ≤ c.toNat) && decide (c.toNat ≤ 57)
theorem digB_iff (c : UInt8) : digB c = true ↔ 48 ≤ c.toNat ∧ c.toNat ≤ 57 := by simp [digB]
/-- 1 to 18 decimal digits. -/
def isLenB (l : List UInt8) : Bool := decide (1 ≤ l.length) && decide (l.length ≤ 18) && l.all digB

/-- The number that a text of digits says. -/
def numv (l : List UInt8) : Nat := l.foldl (fun n c => n * 10 + (c.toNat - 48)) 0

theorem numv_snoc (l : List UInt8) (c : UInt8) : numv (l ++ [c]) = numv l * 10 + (c.toNat - 48) := by simp [numv]
theorem numv_from (l : List UInt8) : ∀ n, l.foldl (fun n c => n * 10 + (c.toNat - 48)) n = n * 10^l.length + numv l := by
  induction l with
  | nil => intro n; simp [numv]
  | cons c l ih =>
    intro n
    unfold numv
    simp only [List.foldl_cons, List.length_cons]
    rw [ih, ih (0 * 10 + (c.toNat - 48)), Nat.pow_succ, Nat.add_mul, Nat.add_mul]
    have : n * 10 * 10 ^ l.length = n * (10 ^ l.length * 10) := by rw [Nat.mul_assoc, Nat.mul_comm 10]
    omega
theorem numv_cons (c : UInt8) (l : List UInt8) : numv (c :: l) = (c.toNat - 48) * 10^l.length + numv l := by
  have := numv_from l (c.toNat - 48)
  rw [← this]; simp [numv]

theorem numv_lt (l : List UInt8) (h : l.all digB = true) : numv l < 10^l.length := by
  induction l with
  | nil => simp [numv]
  | cons c l ih =>
    simp only [List.all_cons, Bool.and_eq_true, digB_iff] at h
    have := ih h.2
    rw [numv_cons, List.length_cons, Nat.pow_succ]
    have : (c.toNat - 48) * 10^l.length ≤ 9 * 10^l.length := Nat.mul_le_mul_right _ (by omega)
    omega

theorem lows_add (a b s t : Nat) (h : t ≤ s) : lows (a * 10^s + b) t = lows b t := by
  induction t with
  | zero => rfl
  | succ t ih =>
    simp only [lows]
    rw [ih (by omega)]
    congr 2
    obtain ⟨d, rfl⟩ : ∃ d, s = t + 1 + d := ⟨s - (t+1), by omega⟩
    have e : a * 10^(t + 1 + d) + b = b + (a * 10^d * 10) * 10^t := by
      rw [Nat.pow_add, Nat.pow_succ, Nat.add_comm]
      congr 1
      have : 10^t * 10 * 10^d = 10^d * 10 * 10^t := by
        rw [Nat.mul_comm (10^t * 10), Nat.mul_comm (10^t) 10, ← Nat.mul_assoc]
      rw [this, ← Nat.mul_assoc, ← Nat.mul_assoc]
    rw [e, Nat.add_mul_div_right _ _ (Nat.pow_pos (by omega)), Nat.add_mul_mod_self_right]

theorem lows_numv (l : List UInt8) (h : l.all digB = true) : lows (numv l) l.length = l := by
  induction l with
  | nil => rfl
  | cons c l ih =>
    simp only [List.all_cons, Bool.and_eq_true, digB_iff] at h
    rw [numv_cons, List.length_cons]
    simp only [lows]
    rw [lows_add _ _ _ _ (Nat.le_refl _), ih h.2]
    congr 1
    have hlt := numv_lt l h.2
    rw [Nat.add_comm (_ * _), Nat.add_mul_div_right _ _ (Nat.pow_pos (by omega)), Nat.div_eq_of_lt hlt, Nat.zero_add]
    apply UInt8.toNat_inj.1
    rw [dig_toNat]
    omega

/-- What fpb1WithoutLeadingZeros hands back: the text from place i on. -/
def Strip (l r : List UInt8) : Prop :=
  ∃ i, r = l.drop i ∧ i < l.length ∧ (∀ j, j < i → l[j]? = some 48) ∧ (i + 1 < l.length → l[i]? ≠ some 48)
/-- Digits with no leading zero but for a lone one. -/
def Canon (r : List UInt8) : Prop := r.all digB = true ∧ 0 < r.length ∧ (1 < r.length → r[0]? ≠ some 48)

theorem numv_zeros (l : List UInt8) : ∀ i, i ≤ l.length → (∀ j, j < i → l[j]? = some 48) → numv (l.drop i) = numv l := by
  intro i
  induction i with
  | zero => intro _ _; simp
  | succ i ih =>
    intro hi hj
    have h1 := ih (by omega) (fun j h => hj j (by omega))
    rw [← h1]
    have hc := hj i (by omega)
    rw [List.getElem?_eq_getElem (by omega)] at hc
    have hc' := Option.some.inj hc
    rw [List.drop_eq_getElem_cons (by omega : i < l.length), hc', numv_cons]
    simp

theorem strip_canon {l r : List UInt8} (h : Strip l r) (hd : l.all digB = true) : Canon r ∧ numv r = numv l := by
  obtain ⟨i, rfl, hi, hz, hn⟩ := h
  refine ⟨⟨?_, by simp; omega, fun h1 => ?_⟩, numv_zeros l i (by omega) hz⟩
  · rw [List.all_eq_true] at hd ⊢
    exact fun x hx => hd x (List.mem_of_mem_drop hx)
  · rw [List.getElem?_drop]
    simpa using hn (by simp at h1; omega)

theorem canon_low {r : List UInt8} (h : Canon r) (h1 : 1 < r.length) : 10^(r.length - 1) ≤ numv r := by
  obtain ⟨hd, _, hn⟩ := h
  cases r with
  | nil => simp at h1
  | cons c l =>
    have hc := hn h1
    simp only [List.getElem?_cons_zero] at hc
    simp only [List.all_cons, Bool.and_eq_true, digB_iff] at hd
    have : c.toNat ≠ 48 := fun e => hc (by rw [show c = 48 from UInt8.toNat_inj.1 e])
    rw [numv_cons]
    simp only [List.length_cons, Nat.add_sub_cancel]
    have : 1 * 10^l.length ≤ (c.toNat - 48) * 10^l.length := Nat.mul_le_mul_right _ (by omega)
    omega

/-- What fpb1Decimal hands back for v. -/
def DecOf (v : Nat) (r : List UInt8) : Prop := (v = 0 ∧ r = [48]) ∨ ∃ t, 0 < v ∧ 0 < t ∧ 10^(t-1) ≤ v ∧ v < 10^t ∧ r = lows v t

theorem pow_unique {v s t : Nat} (hs : 0 < s) (ht : 0 < t) (a : 10^(s-1) ≤ v) (b : v < 10^s) (c : 10^(t-1) ≤ v) (d : v < 10^t) : s = t := by
  rcases Nat.lt_trichotomy s t with h | h | h
  · have := Nat.pow_le_pow_right (n := 10) (by omega) (show s ≤ t - 1 by omega)
    omega
  · exact h
  · have := Nat.pow_le_pow_right (n := 10) (by omega) (show t ≤ s - 1 by omega)
    omega

theorem dec_strip {l r q : List UInt8} (h : Strip l r) (hd : l.all digB = true) (hq : DecOf (numv l) q) : q = r := by
  obtain ⟨hc, hv⟩ := strip_canon h hd
  rw [← hv] at hq
  have hlt := numv_lt r hc.1
  have hln := lows_numv r hc.1
  by_cases h1 : 1 < r.length
  · have hlo := canon_low hc h1
    have hpos : 0 < 10^(r.length - 1) := Nat.pow_pos (by omega)
    rcases hq with ⟨h0, _⟩ | ⟨t, _, ht, ha, hb, rfl⟩
    · omega
    · rw [pow_unique ht hc.2.1 ha hb hlo hlt]; exact hln
  · have hl1 : r.length = 1 := by have := hc.2.1; omega
    rw [hl1] at hln hlt
    rcases hq with ⟨h0, rfl⟩ | ⟨t, hv0, ht, ha, hb, rfl⟩
    · rw [← hln, h0]; rfl
    · rw [pow_unique (t := 1) ht (by omega) ha hb (by simp; omega) hlt]
      exact hln

/-- Texts of one length: which comes first at the first place where they part. -/
def lexB : List UInt8 → List UInt8 → Bool
  | a :: l, b :: r => if a = b then lexB l r else decide (a.toNat < b.toNat)
  | _, _ => false
def shortB (a b : List UInt8) : Bool := if a.length = b.length then lexB a b else decide (a.length < b.length)

theorem lex_num : ∀ (a b : List UInt8), a.length = b.length → a.all digB = true → b.all digB = true → (lexB a b = true ↔ numv a < numv b) ∧ (numv a = numv b → a = b)
  | [], [], _, _, _ => by simp [lexB, numv]
  | c :: a, d :: b, hl, ha, hb => by
    simp only [List.all_cons, Bool.and_eq_true, digB_iff] at ha hb
    simp only [List.length_cons, Nat.add_right_cancel_iff] at hl
    obtain ⟨h1, h2⟩ := lex_num a b hl ha.2 hb.2
    have la := numv_lt a ha.2
    have lb := numv_lt b hb.2
    rw [numv_cons, numv_cons, hl]
    rw [hl] at la
    by_cases hcd : c = d
    · subst hcd
      simp only [lexB, if_true]
      refine ⟨⟨fun h => by have := h1.1 h; omega, fun h => h1.2 (by omega)⟩, fun h => by rw [h2 (by omega)]⟩
    · have hne : c.toNat ≠ d.toNat := fun e => hcd (UInt8.toNat_inj.1 e)
      simp only [lexB, hcd, if_false, decide_eq_true_eq]
      rcases Nat.lt_or_gt_of_ne hne with h | h
      · have : ((c.toNat - 48) + 1) * 10^b.length ≤ (d.toNat - 48) * 10^b.length := Nat.mul_le_mul_right _ (by omega)
        rw [Nat.add_mul] at this
        exact ⟨⟨fun _ => by omega, fun _ => h⟩, fun e => by omega⟩
      · have : ((d.toNat - 48) + 1) * 10^b.length ≤ (c.toNat - 48) * 10^b.length := Nat.mul_le_mul_right _ (by omega)
        rw [Nat.add_mul] at this
        exact ⟨⟨fun _ => by omega, fun _ => by omega⟩, fun e => by omega⟩
  | [], d :: b, hl, _, _ => by simp at hl
  | c :: a, [], hl, _, _ => by simp at hl

theorem short_num {a b : List UInt8} (ha : Canon a) (hb : Canon b) : (shortB a b = true ↔ numv a < numv b) ∧ (numv a = numv b ↔ a = b) := by
  by_cases hl : a.length = b.length
  · obtain ⟨h1, h2⟩ := lex_num a b hl ha.1 hb.1
    refine ⟨?_, h2, fun e => by rw [e]⟩
    unfold shortB; rw [if_pos hl]; exact h1
  · have la := numv_lt a ha.1
    have lb := numv_lt b hb.1
    unfold shortB; rw [if_neg hl]
    simp only [decide_eq_true_eq]
    rcases Nat.lt_or_gt_of_ne hl with h | h
    · have h1 := canon_low hb (by have := ha.2.1; omega)
      have := Nat.pow_le_pow_right (n := 10) (by omega) (show a.length ≤ b.length - 1 by omega)
      exact ⟨⟨fun _ => by omega, fun _ => h⟩, fun e => by omega, fun e => by rw [e] at h; omega⟩
    · have h1 := canon_low ha (by have := hb.2.1; omega)
      have := Nat.pow_le_pow_right (n := 10) (by omega) (show b.length ≤ a.length - 1 by omega)
      exact ⟨⟨fun _ => by omega, fun _ => by omega⟩, fun e => by omega, fun e => by rw [e] at h; omega⟩

theorem order_law {a b ra rb : List UInt8} (ha : a.all digB = true) (hb : b.all digB = true) (sa : Strip a ra) (sb : Strip b rb) :
    decide (numv a < numv b) = shortB ra rb ∧ decide (numv a = numv b) = decide (ra = rb) := by
  obtain ⟨ca, va⟩ := strip_canon sa ha
  obtain ⟨cb, vb⟩ := strip_canon sb hb
  obtain ⟨h1, h2⟩ := short_num ca cb
  rw [va, vb] at h1 h2
  refine ⟨?_, by simp only [h2]⟩
  rw [Bool.eq_iff_iff, decide_eq_true_eq]
  exact h1.symm
end Go.Proofs.Qxb6602146a
