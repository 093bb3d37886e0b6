/-
  Seat b6602090a: zzSameKey (14), zzJoinClaim (15), zzProperPrefix (16).
-/
import Derived.Test.Qxb6602090aClone
namespace Go.Proofs.Qxb6602090a
open Go.RowKit Go.Maps

/-- A key of the copy, as a value. -/
def KeyV (w : World) (v : Value) (key : Key) : Prop :=
  ∃ ad cp, v = .slice ad key.length cp ∧ (0 < key.length → ∃ kb, ad = some ⟨kb, 0, none⟩ ∧ StepsAt w kb 0 key)
theorem KeyC.val {b : Nat} {w : World} {v : Value} {key : Key} (h : KeyC b w v key) : KeyV w v key := by
  obtain ⟨ad, cp, h1, h2⟩ := h
  exact ⟨ad, cp, h1, fun hl => by obtain ⟨kb, h3, _, _, h6⟩ := h2 hl; exact ⟨kb, h3, h6⟩⟩
theorem KeyV.keep {w w' : World} {v : Value} {key : Key} (h : KeyV w v key) (hb : Below w.heap.size w w') : KeyV w' v key := by
  obtain ⟨ad, cp, h1, h2⟩ := h
  refine ⟨ad, cp, h1, fun hl => ?_⟩
  obtain ⟨kb, h3, h4⟩ := h2 hl
  refine ⟨kb, h3, fun i s hi => ?_⟩
  obtain ⟨k0, k1⟩ := h4 i s hi
  exact ⟨below_cell hb k0, below_cell hb k1⟩

theorem same_end {A B : Key} {k : Nat} (h : A.take k = B.take k) (hA : A.length ≤ k) (hB : A.length = B.length) : A = B := by
  rw [List.take_of_length_le hA, List.take_of_length_le (by omega)] at h; exact h
theorem pre_end {A B : Key} {k : Nat} (h : A.take k = B.take k) (hA : A.length ≤ k) : A <+: B := by
  rw [List.take_of_length_le hA] at h
  rw [h]; exact List.take_prefix _ _
theorem take_next {A B : Key} {k : Nat} {a : Step} (h : A.take k = B.take k) (ha : A[k]? = some a) (hb : B[k]? = some a) : A.take (k + 1) = B.take (k + 1) := by
  rw [List.take_add_one, List.take_add_one, h, ha, hb]
def properB (a b : Key) : Bool := decide (a <+: b ∧ b ≠ a)

theorem join_any (c p : Int) (w : World) : Calls Try.prog 15 #[.int .i64 c, .int .i64 p] w fun r w' => r = .returned (.int .i64 (joinc c p)) ∧ w = w' := by
  by_cases h0 : p = 0
  · subst h0
    have e : joinc c 0 = c := by unfold joinc; rw [if_pos rfl]
    have HE : Hid (joinc c 0 = c) := e
    clear e
    go_enter Try.func15, Try.ntmps15
    go_wp2
    go_ret
    exact ⟨by rw [HE.out]; rfl, rfl⟩
  · have h0' : (p == 0) = false := by rw [beq_eq_false_iff_ne]; exact h0
    by_cases h1 : c = 0
    · subst h1
      have HE : Hid (joinc 0 p = p) := join_zero p
      go_enter Try.func15, Try.ntmps15
      go_wp2
      go_ret
      exact ⟨by rw [HE.out]; rfl, rfl⟩
    · have h1' : (c == 0) = false := by rw [beq_eq_false_iff_ne]; exact h1
      by_cases h2 : c = p
      · subst h2
        have HE : Hid (joinc c c = c) := by unfold joinc addc; rw [if_neg h0, if_neg h0, if_pos rfl]; exact rfl
        go_enter Try.func15, Try.ntmps15
        go_wp2
        go_ret
        exact ⟨by rw [HE.out]; rfl, rfl⟩
      · have h2' : (c == p) = false := by rw [beq_eq_false_iff_ne]; exact h2
        have HE : Hid (joinc c p = -1) := by unfold joinc addc; rw [if_neg h0, if_neg h1, if_neg h2]; exact rfl
        clear h0 h1 h2
        go_enter Try.func15, Try.ntmps15
        go_wp2
        go_ret
        exact ⟨by rw [HE.out]; rfl, rfl⟩

theorem not_same {A B : Key} {k : Nat} {a b : Step} (ha : A[k]? = some a) (hb : B[k]? = some b) (h : a ≠ b) : decide (A = B) = false :=
  decide_eq_false (fun e => by rw [e, hb] at ha; injection ha with ha; exact h ha.symm)
theorem not_pre {A B : Key} {k : Nat} {a b : Step} (ha : A[k]? = some a) (hb : B[k]? = some b) (h : a ≠ b) : properB A B = false :=
  decide_eq_false (fun e => by
    rw [getElem?_of_prefix e.1 (List.getElem?_eq_some_iff.1 ha).1, ha] at hb
    injection hb with hb; exact h hb)

set_option linter.unusedVariables false in
set_option maxRecDepth 100000 in
set_option maxHeartbeats 4000000 in
theorem same_any (w : World) (v1 v2 : Value) (A B : Key) (h1 : KeyV w v1 A) (h2 : KeyV w v2 B) (nA : A.length ≤ 65536) (nB : B.length ≤ 65536) :
    Calls Try.prog 14 #[v1, v2] w fun r w' => r = .returned (.bool (decide (A = B))) ∧ ∃ n, w' = w.drewN n := by
  obtain ⟨ad1, c1, rfl, hA⟩ := h1
  obtain ⟨ad2, c2, rfl, hB⟩ := h2
  obtain ⟨l1, e1⟩ : ∃ l, l = A.length := ⟨_, rfl⟩
  obtain ⟨l2, e2⟩ : ∃ l, l = B.length := ⟨_, rfl⟩
  rw [← e1] at hA nA ⊢
  rw [← e2] at hB nB ⊢
  have HA : Hid (0 < l1 → ∃ kb, ad1 = some ⟨kb, 0, none⟩ ∧ StepsAt w kb 0 A) := hA
  have HB : Hid (0 < l2 → ∃ kb, ad2 = some ⟨kb, 0, none⟩ ∧ StepsAt w kb 0 B) := hB
  have E1 : Hid (l1 = A.length) := e1
  have E2 : Hid (l2 = B.length) := e2
  obtain ⟨R, hR⟩ : ∃ R, R = decide (A = B) := ⟨_, rfl⟩
  rw [← hR]
  have HR : Hid (R = decide (A = B)) := hR
  clear hA hB e1 e2 hR
  by_cases hl : l1 = l2
  · have dl : ((l1 : Int) != (l2 : Int)) = false := by rw [bne_eq_false_iff_eq]; omega
    have HEQ : Hid (l1 = l2) := hl
    have hl1 : l1 ≤ l2 := by omega
    have hl2 : l2 ≤ l1 := by omega
    clear hl
    go_enter Try.func14, Try.ntmps14
    go_wp2
    go_loopw [5] (fun i wr => ∃ k n : Nat, k ≤ l1 ∧ i = .int .i64 k ∧ wr = w.drewN n ∧ Hid (A.take k = B.take k)) (fun i _ => l1 - (intOf i).toNat)
    case atStart => exact ⟨0, 0, by omega, rfl, rfl, by simp [Hid]⟩
    case round =>
      obtain ⟨k, n, hk, rfl, rfl, HT⟩ := hrel
      have hk0 : (0 : Int) ≤ (k : Int) := by omega
      by_cases hk1 : k < l1
      · have d1 : decide ((k : Int) < (l1 : Int)) = true := decide_eq_true (by omega)
        have i1 : (k : Int) < (l1 : Int) := by omega
        have i2 : (k : Int) < (l2 : Int) := by omega
        obtain ⟨b1, rfl, hA⟩ := HA.out (by omega)
        obtain ⟨b2, rfl, hB⟩ := HB.out (by omega)
        obtain ⟨⟨s1, x1⟩, ha⟩ : ∃ a, A[k]? = some a := ⟨_, List.getElem?_eq_getElem (by rw [← E1.out]; exact hk1)⟩
        obtain ⟨⟨s2, x2⟩, hb⟩ : ∃ b, B[k]? = some b := ⟨_, List.getElem?_eq_getElem (by rw [← E2.out]; omega)⟩
        obtain ⟨ca1, ca2⟩ := hA k _ ha
        obtain ⟨cb1, cb2⟩ := hB k _ hb
        rw [Nat.zero_add] at ca1 ca2 cb1 cb2
        have HHA : Hid (A[k]? = some (s1, x1)) := ha
        have HHB : Hid (B[k]? = some (s2, x2)) := hb
        clear hA hB ha hb
        by_cases hs : s1 = s2
        · subst hs
          by_cases hx : x1 = x2
          · subst hx
            have HT1 : Hid (A.take (k + 1) = B.take (k + 1)) := take_next HT.out HHA.out HHB.out
            go_wp2
            go_quiet (fail)
            go_wp2
            go_roundw
            case rel => exact ⟨k + 1, _, by omega, by go_num, rfl, HT1⟩
            case measure => simp [intOf]; omega
          · have HRf : Hid (R = false) := by
              rw [Hid, HR.out]
              exact not_same HHA.out HHB.out (fun hh => hx (congrArg Prod.snd hh))
            have hx' : (x1 == x2) = false := by rw [beq_eq_false_iff_ne]; exact hx
            clear hx
            go_wp2
            go_quiet (fail)
            go_wp2
            go_ret
            exact ⟨by rw [HRf.out]; rfl, _, by first | rfl | rw [World.drewN_drewN]⟩
        · have HRf : Hid (R = false) := by
            rw [Hid, HR.out]
            exact not_same HHA.out HHB.out (fun hh => hs (congrArg Prod.fst hh))
          have hs' : ¬ s1.toList = s2.toList := fun hh => hs (by rw [ByteArray.toList_eq, ByteArray.toList_eq] at hh; exact Go.WideShapes.bytes_inj hh)
          clear hs
          go_wp2
          go_quiet (fail)
          go_wp2
          go_ret
          exact ⟨by rw [HRf.out]; rfl, _, by first | rfl | rw [World.drewN_drewN]⟩
      · have d1 : decide ((k : Int) < (l1 : Int)) = false := decide_eq_false (by omega)
        have HRt : Hid (R = true) := by
          rw [Hid, HR.out]
          exact decide_eq_true (same_end HT.out (by rw [← E1.out]; omega) (by rw [← E1.out, ← E2.out]; exact HEQ.out))
        go_wp2
        go_ret
        exact ⟨by rw [HRt.out]; rfl, _, by first | rfl | rw [World.drewN_drewN]⟩
  · have dl : ((l1 : Int) != (l2 : Int)) = true := by rw [bne_iff_ne]; omega
    have HRf : Hid (R = false) := by
      rw [Hid, HR.out]
      exact decide_eq_false (fun hh => hl (by rw [E1.out, E2.out, hh]))
    go_enter Try.func14, Try.ntmps14
    go_wp2
    go_ret
    exact ⟨by rw [HRf.out]; rfl, 0, rfl⟩

set_option linter.unusedVariables false in
set_option maxRecDepth 100000 in
set_option maxHeartbeats 4000000 in
theorem proper_any (w : World) (v1 v2 : Value) (A B : Key) (h1 : KeyV w v1 A) (h2 : KeyV w v2 B) (nA : A.length ≤ 65536) (nB : B.length ≤ 65536) :
    Calls Try.prog 16 #[v1, v2] w fun r w' => r = .returned (.bool (properB A B)) ∧ ∃ n, w' = w.drewN n := by
  obtain ⟨ad1, c1, rfl, hA⟩ := h1
  obtain ⟨ad2, c2, rfl, hB⟩ := h2
  obtain ⟨l1, e1⟩ : ∃ l, l = A.length := ⟨_, rfl⟩
  obtain ⟨l2, e2⟩ : ∃ l, l = B.length := ⟨_, rfl⟩
  rw [← e1] at hA nA ⊢
  rw [← e2] at hB nB ⊢
  have HA : Hid (0 < l1 → ∃ kb, ad1 = some ⟨kb, 0, none⟩ ∧ StepsAt w kb 0 A) := hA
  have HB : Hid (0 < l2 → ∃ kb, ad2 = some ⟨kb, 0, none⟩ ∧ StepsAt w kb 0 B) := hB
  have E1 : Hid (l1 = A.length) := e1
  have E2 : Hid (l2 = B.length) := e2
  obtain ⟨R, hR⟩ : ∃ R, R = properB A B := ⟨_, rfl⟩
  rw [← hR]
  have HR : Hid (R = properB A B) := hR
  clear hA hB e1 e2 hR
  by_cases hl : l1 < l2
  · have dl : decide (l2 ≤ l1) = false := decide_eq_false (by omega)
    go_enter Try.func16, Try.ntmps16
    go_wp2
    go_loopw [5] (fun i wr => ∃ k n : Nat, k ≤ l1 ∧ i = .int .i64 k ∧ wr = w.drewN n ∧ Hid (A.take k = B.take k)) (fun i _ => l1 - (intOf i).toNat)
    case atStart => exact ⟨0, 0, by omega, rfl, rfl, by simp [Hid]⟩
    case round =>
      obtain ⟨k, n, hk, rfl, rfl, HT⟩ := hrel
      have hk0 : (0 : Int) ≤ (k : Int) := by omega
      by_cases hk1 : k < l1
      · have d1 : decide ((k : Int) < (l1 : Int)) = true := decide_eq_true (by omega)
        have i1 : (k : Int) < (l1 : Int) := by omega
        have i2 : (k : Int) < (l2 : Int) := by omega
        obtain ⟨b1, rfl, hA⟩ := HA.out (by omega)
        obtain ⟨b2, rfl, hB⟩ := HB.out (by omega)
        obtain ⟨⟨s1, x1⟩, ha⟩ : ∃ a, A[k]? = some a := ⟨_, List.getElem?_eq_getElem (by rw [← E1.out]; exact hk1)⟩
        obtain ⟨⟨s2, x2⟩, hb⟩ : ∃ b, B[k]? = some b := ⟨_, List.getElem?_eq_getElem (by rw [← E2.out]; omega)⟩
        obtain ⟨ca1, ca2⟩ := hA k _ ha
        obtain ⟨cb1, cb2⟩ := hB k _ hb
        rw [Nat.zero_add] at ca1 ca2 cb1 cb2
        have HHA : Hid (A[k]? = some (s1, x1)) := ha
        have HHB : Hid (B[k]? = some (s2, x2)) := hb
        clear hA hB ha hb
        by_cases hs : s1 = s2
        · subst hs
          by_cases hx : x1 = x2
          · subst hx
            have HT1 : Hid (A.take (k + 1) = B.take (k + 1)) := take_next HT.out HHA.out HHB.out
            go_wp2
            go_quiet (fail)
            go_wp2
            go_roundw
            case rel => exact ⟨k + 1, _, by omega, by go_num, rfl, HT1⟩
            case measure => simp [intOf]; omega
          · have HRf : Hid (R = false) := by
              rw [Hid, HR.out]
              exact not_pre HHA.out HHB.out (fun hh => hx (congrArg Prod.snd hh))
            have hx' : (x1 == x2) = false := by rw [beq_eq_false_iff_ne]; exact hx
            clear hx
            go_wp2
            go_quiet (fail)
            go_wp2
            go_ret
            exact ⟨by rw [HRf.out]; rfl, _, by first | rfl | rw [World.drewN_drewN]⟩
        · have HRf : Hid (R = false) := by
            rw [Hid, HR.out]
            exact not_pre HHA.out HHB.out (fun hh => hs (congrArg Prod.fst hh))
          have hs' : ¬ s1.toList = s2.toList := fun hh => hs (by rw [ByteArray.toList_eq, ByteArray.toList_eq] at hh; exact Go.WideShapes.bytes_inj hh)
          clear hs
          go_wp2
          go_quiet (fail)
          go_wp2
          go_ret
          exact ⟨by rw [HRf.out]; rfl, _, by first | rfl | rw [World.drewN_drewN]⟩
      · have d1 : decide ((k : Int) < (l1 : Int)) = false := decide_eq_false (by omega)
        have HRt : Hid (R = true) := by
          rw [Hid, HR.out]
          exact decide_eq_true ⟨pre_end HT.out (by rw [← E1.out]; omega), fun e => by have := E1.out; have := E2.out; rw [e] at this; omega⟩
        go_wp2
        go_ret
        exact ⟨by rw [HRt.out]; rfl, _, by first | rfl | rw [World.drewN_drewN]⟩
  · have dl : decide ((l1 : Int) ≥ (l2 : Int)) = true := decide_eq_true (by omega)
    have HRf : Hid (R = false) := by
      rw [Hid, HR.out]
      refine decide_eq_false (fun hh => hh.2 (hh.1.eq_of_length_le ?_).symm)
      rw [← E1.out, ← E2.out]; omega
    go_enter Try.func16, Try.ntmps16
    go_wp2
    go_ret
    exact ⟨by rw [HRf.out]; rfl, 0, rfl⟩
end Go.Proofs.Qxb6602090a
