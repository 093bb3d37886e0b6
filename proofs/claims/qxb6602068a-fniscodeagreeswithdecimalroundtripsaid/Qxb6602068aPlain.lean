/-
  Seat b6602068a: the plain laws on digits. No Go in sight.
-/
namespace Go.Proofs.Qxb6602068a

/-- The t lowest decimal digits of m, as bytes, the highest of them first. -/
def lows (m : Nat) : Nat → List UInt8
  | 0 => []
  | t+1 => UInt8.ofNat (48 + (m / 10^t) % 10) :: lows m t
theorem lows_length (m t : Nat) : (lows m t).length = t := by
  induction t with
  | zero => rfl
  | succ t ih => simp [lows, ih]

theorem dig_toNat (k : Nat) : (UInt8.ofNat (48 + k % 10)).toNat = 48 + k % 10 := by
  have hm : k % 10 < 10 := Nat.mod_lt _ (by omega)
  rw [UInt8.toNat_ofNat_of_lt' (by show _ < 256; omega)]

/-- Is a byte a digit? -/
def digB (c : UInt8) : Bool := decide (48 ≤ c.toNat) && decide (c.toNat ≤ 57)
/-- What IsCode says of the bytes l. -/
def isCodeB (l : List UInt8) : Bool := l.length == 6 && l.all digB

theorem lows_all (m t : Nat) : (lows m t).all digB = true := by
  induction t with
  | zero => rfl
  | succ t ih =>
    have hm : m / 10^t % 10 < 10 := Nat.mod_lt _ (by omega)
    simp only [lows, List.all_cons, ih, Bool.and_true, digB, dig_toNat, Bool.and_eq_true, decide_eq_true_eq]
    omega

/-- What zzPad6 hands back for n: 't' digits of the number's magnitude, at least six and no more than it needs beyond; a minus ahead of a negative one. -/
def PadOf (n : Int) (l : List UInt8) : Prop :=
  ∃ t, 6 ≤ t ∧ n.natAbs < 10^t ∧ (6 < t → 10^(t-1) ≤ n.natAbs) ∧ l = if n < 0 then 45 :: lows n.natAbs t else lows n.natAbs t

theorem pad_code {n : Int} {l : List UInt8} (h : PadOf n l) : isCodeB l = (decide (0 ≤ n) && decide (n ≤ 999999)) := by
  obtain ⟨t, h6, hlt, hge, rfl⟩ := h
  by_cases hn : n < 0
  · rw [if_pos hn]
    have h1 : ((45 :: lows n.natAbs t).length == 6) = false := by simp [lows_length]; omega
    have h2 : decide (0 ≤ n) = false := by simp; omega
    unfold isCodeB
    rw [h1, h2]
    rfl
  · rw [if_neg hn]
    have h2 : decide (0 ≤ n) = true := by simp; omega
    simp only [isCodeB, lows_all, lows_length, Bool.and_true, h2, Bool.true_and]
    by_cases ht : t = 6
    · subst ht
      have : n ≤ 999999 := by omega
      simp [this]
    · have hge := hge (by omega)
      have : 10^6 ≤ 10^(t-1) := Nat.pow_le_pow_right (by omega) (by omega)
      have h3 : ¬ n ≤ 999999 := by omega
      simp [ht, h3]

theorem pad_six {n : Int} {l : List UInt8} (h : PadOf n l) (h0 : 0 ≤ n) (h1 : n ≤ 999999) : l = lows n.toNat 6 := by
  obtain ⟨t, h6, hlt, hge, rfl⟩ := h
  rw [if_neg (by omega)]
  have : t = 6 := by
    rcases Nat.lt_or_ge 6 t with ht | ht
    · have hge := hge ht
      have : 10^6 ≤ 10^(t-1) := Nat.pow_le_pow_right (by omega) (by omega)
      omega
    · omega
  subst this
  congr 1
  omega

/-- What six bytes read as: each less 48, as a decimal digit. -/
def val : List UInt8 → Int
  | l => l.foldl (fun n c => n * 10 + ((c.toNat : Int) - 48)) 0

theorem val_snoc (l : List UInt8) (c : UInt8) : val (l ++ [c]) = val l * 10 + ((c.toNat : Int) - 48) := by simp [val]

theorem val_bound (l : List UInt8) (h : l.length ≤ 6) : -48 * 111111 ≤ val l ∧ val l ≤ 207 * 111111 := by
  match l, h with
  | [], _ => simp [val]
  | [a], _ => have := a.toNat_lt; simp [val]; omega
  | [a, b], _ => have := a.toNat_lt; have := b.toNat_lt; simp [val]; omega
  | [a, b, c], _ => have := a.toNat_lt; have := b.toNat_lt; have := c.toNat_lt; simp [val]; omega
  | [a, b, c, d], _ => have := a.toNat_lt; have := b.toNat_lt; have := c.toNat_lt; have := d.toNat_lt; simp [val]; omega
  | [a, b, c, d, e], _ => have := a.toNat_lt; have := b.toNat_lt; have := c.toNat_lt; have := d.toNat_lt; have := e.toNat_lt; simp [val]; omega
  | [a, b, c, d, e, f], _ => have := a.toNat_lt; have := b.toNat_lt; have := c.toNat_lt; have := d.toNat_lt; have := e.toNat_lt; have := f.toNat_lt; simp [val]; omega
  | a :: b :: c :: d :: e :: f :: g :: l, h => simp at h

theorem dig_of {c : UInt8} {k : Nat} (h : c.toNat = 48 + k % 10) : UInt8.ofNat (48 + k % 10) = c := by
  apply UInt8.toNat_inj.1
  rw [dig_toNat, h]

/-- Six digits read and written back are the same six digits. -/
theorem lows_val (l : List UInt8) (h : isCodeB l = true) : 0 ≤ val l ∧ val l ≤ 999999 ∧ lows (val l).toNat 6 = l := by
  match l, h with
  | [a, b, c, d, e, f], h =>
    simp only [isCodeB, List.all_cons, List.all_nil, digB, Bool.and_eq_true, decide_eq_true_eq, Bool.and_true] at h
    obtain ⟨_, ⟨ha, ha'⟩, ⟨hb, hb'⟩, ⟨hc, hc'⟩, ⟨hd, hd'⟩, ⟨he, he'⟩, hf, hf'⟩ := h
    have hv : val [a, b, c, d, e, f] = (((((((a.toNat : Int) - 48) * 10 + ((b.toNat : Int) - 48)) * 10 + ((c.toNat : Int) - 48)) * 10 + ((d.toNat : Int) - 48)) * 10 + ((e.toNat : Int) - 48)) * 10 + ((f.toNat : Int) - 48)) := by simp [val]
    rw [hv]
    refine ⟨by omega, by omega, ?_⟩
    simp only [lows]
    rw [dig_of (c := a) (by omega), dig_of (c := b) (by omega), dig_of (c := c) (by omega), dig_of (c := d) (by omega), dig_of (c := e) (by omega), dig_of (c := f) (by omega)]
  | [], h => simp [isCodeB] at h
  | [a], h => simp [isCodeB] at h
  | [a, b], h => simp [isCodeB] at h
  | [a, b, c], h => simp [isCodeB] at h
  | [a, b, c, d], h => simp [isCodeB] at h
  | [a, b, c, d, e], h => simp [isCodeB] at h
  | a :: b :: c :: d :: e :: f :: g :: l, h => simp [isCodeB] at h

/-- The second law's plain part: the two answers agree on six bytes. -/
theorem trip {code l : List UInt8} (h6 : code.length = 6) (h0 : 0 ≤ val code) (h1 : val code ≤ 999999) (hp : PadOf (val code) l) : isCodeB code = (l == code) := by
  have hl := pad_six hp h0 h1
  subst hl
  cases hc : isCodeB code with
  | true => rw [(lows_val code hc).2.2]; simp
  | false =>
    have : lows (val code).toNat 6 ≠ code := by
      intro e
      have ha := lows_all (val code).toNat 6
      rw [e] at ha
      simp [isCodeB, h6, ha] at hc
    simp [this]

theorem trip_out {code : List UInt8} (h : ¬ (0 ≤ val code ∧ val code ≤ 999999)) : isCodeB code = false := by
  cases hc : isCodeB code with
  | true => exact absurd ⟨(lows_val code hc).1, (lows_val code hc).2.1⟩ h
  | false => rfl
end Go.Proofs.Qxb6602068a
