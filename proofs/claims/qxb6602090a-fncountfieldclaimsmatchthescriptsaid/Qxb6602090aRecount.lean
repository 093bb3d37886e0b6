/-
  Seat b6602090a: FnCountFieldRecountChangesNothing (4).
-/
import Derived.Test.Qxb6602090aRun
namespace Go.Proofs.Qxb6602090a
open Go.RowKit Go.Maps

/-- The row of the claims before. -/
def BefAt (w : World) (B n : Nat) (S : List Clm) (k : Nat) : Prop :=
  ∃ arr : Array Value, w.heap[B]? = some (.cells arr 3 (0, 0)) ∧ arr.size = 4 * n ∧ ∀ i m, i < k → S[i]? = some m →
    arr[4 * i]? = some (.int .i64 (claimsOf S m.key).ch) ∧ arr[4 * i + 1]? = some (.int .i64 (claimsOf S m.key).de) ∧ arr[4 * i + 2]? = some (.int .i64 (claimsOf S m.key).cw) ∧ arr[4 * i + 3]? = some (.int .i64 (claimsOf S m.key).dw)

theorem BefAt.keep {w w' : World} {B n : Nat} {S : List Clm} {k : Nat} (h : BefAt w B n S k) (hb : w'.heap[B]? = w.heap[B]?) : BefAt w' B n S k := by
  obtain ⟨arr, h1, h2⟩ := h; exact ⟨arr, hb.trans h1, h2⟩
theorem BefAt.lt {w : World} {B n : Nat} {S : List Clm} {k : Nat} (h : BefAt w B n S k) : B < w.heap.size := by obtain ⟨arr, h1, _⟩ := h; exact blk_lt h1
theorem BefAt.rows {w w' : World} {B n : Nat} {S : List Clm} {k : Nat} (h : BefAt w B n S k) (hr : Rows2 w w') : BefAt w' B n S k := by
  obtain ⟨arr, h1, h2⟩ := h; exact ⟨arr, (hr B arr 3 h1 (by decide)).trans h1, h2⟩
theorem BefAt.has {w : World} {B n : Nat} {S : List Clm} {k : Nat} (h : BefAt w B n S k) {i : Nat} (hi : i < 4 * n) : (∃ v, w.cell? ⟨B, i, none⟩ = some v) ∧ w.frozen? ⟨B, i, none⟩ = false := by
  obtain ⟨arr, h1, h2, _⟩ := h
  exact ⟨⟨_, by rw [blk_cell h1]; exact Array.getElem?_eq_getElem (by omega)⟩, blk_frozen h1⟩
theorem BefAt.get {w : World} {B n : Nat} {S : List Clm} {k i t : Nat} {m : Clm} (h : BefAt w B n S k) (hi : i < k) (hm : S[i]? = some m) (ht : t = 4 * i) :
    w.cell? ⟨B, t, none⟩ = some (.int .i64 (claimsOf S m.key).ch) ∧ w.cell? ⟨B, t + 1, none⟩ = some (.int .i64 (claimsOf S m.key).de) ∧ w.cell? ⟨B, t + 2, none⟩ = some (.int .i64 (claimsOf S m.key).cw) ∧ w.cell? ⟨B, t + 3, none⟩ = some (.int .i64 (claimsOf S m.key).dw) := by
  obtain ⟨arr, h1, h2, h3⟩ := h
  rw [blk_cell h1, blk_cell h1, blk_cell h1, blk_cell h1, ht]
  exact h3 i m hi hm
/-- The world with the four numbers laid. -/
def laid4 (w : World) (B t : Nat) (c : Cl) : World := (((w.setCell ⟨B, t, none⟩ (.int .i64 c.ch)).setCell ⟨B, t + 1, none⟩ (.int .i64 c.de)).setCell ⟨B, t + 2, none⟩ (.int .i64 c.cw)).setCell ⟨B, t + 3, none⟩ (.int .i64 c.dw)
theorem laid4_fr (w : World) (B t : Nat) (c : Cl) : Fr (· = B) w (laid4 w B t c) :=
  (((Fr.setCell w ⟨B, t, none⟩ _).trans (Fr.setCell _ ⟨B, t + 1, none⟩ _)).trans (Fr.setCell _ ⟨B, t + 2, none⟩ _)).trans (Fr.setCell _ ⟨B, t + 3, none⟩ _)
theorem BefAt.put {w : World} {B n : Nat} {S : List Clm} {k t : Nat} {m : Clm} (h : BefAt w B n S k) (hk : k < n) (hm : S[k]? = some m) (ht : t = 4 * k) : BefAt (laid4 w B t (claimsOf S m.key)) B n S (k + 1) := by
  obtain ⟨arr, h1, h2, h3⟩ := h
  refine ⟨_, blk_set _ (blk_set _ (blk_set _ (blk_set _ h1))), by simp only [Array.size_setIfInBounds]; exact h2, fun i m' hi hm' => ?_⟩
  simp only [Array.getElem?_setIfInBounds, Array.size_setIfInBounds]
  by_cases e : i = k
  · subst e
    rw [hm] at hm'; injection hm' with hm'; subst hm'
    refine ⟨?_, ?_, ?_, ?_⟩
    · rw [if_neg (by omega), if_neg (by omega), if_neg (by omega), if_pos (by omega), if_pos (by omega)]
    · rw [if_neg (by omega), if_neg (by omega), if_pos (by omega), if_pos (by omega)]
    · rw [if_neg (by omega), if_pos (by omega), if_pos (by omega)]
    · rw [if_pos (by omega), if_pos (by omega)]
  · obtain ⟨a0, a1, a2, a3⟩ := h3 i m' (by omega) hm'
    refine ⟨?_, ?_, ?_, ?_⟩
    · rw [if_neg (by omega), if_neg (by omega), if_neg (by omega), if_neg (by omega)]; exact a0
    · rw [if_neg (by omega), if_neg (by omega), if_neg (by omega), if_neg (by omega)]; exact a1
    · rw [if_neg (by omega), if_neg (by omega), if_neg (by omega), if_neg (by omega)]; exact a2
    · rw [if_neg (by omega), if_neg (by omega), if_neg (by omega), if_neg (by omega)]; exact a3
theorem take_snoc {S : List Clm} {k : Nat} {m : Clm} (h : S[k]? = some m) : S.take k ++ [m] = S.take (k + 1) := by rw [List.take_add_one, h]; rfl

def TwoRel (w1 : World) (B n : Nat) (S : List Clm) (i : Value) (w : World) : Prop := ∃ k : Nat, k ≤ n ∧ i = .int .i64 k ∧ LS w1 w1.heap.size (w1.heap.size + 1) n S S n w ∧ BefAt w B n S k
def ThreeRel (w1 : World) (B n : Nat) (S : List Clm) (i : Value) (w : World) : Prop := ∃ k : Nat, k ≤ n ∧ i = .int .i64 k ∧ LS w1 w1.heap.size (w1.heap.size + 1) n S (S ++ S.take k) n w ∧ BefAt w B n S n
def FourRel (w1 : World) (B n : Nat) (S : List Clm) (i : Value) (w : World) : Prop := ∃ k : Nat, k ≤ n ∧ i = .int .i64 k ∧ LS w1 w1.heap.size (w1.heap.size + 1) n S (S ++ S) n w ∧ BefAt w B n S n

def OneRel (w1 : World) (n : Nat) (S : List Clm) (i : Value) (w : World) : Prop := ∃ k : Nat, k ≤ n ∧ i = .int .i64 k ∧ LS w1 w1.heap.size (w1.heap.size + 1) n S (S.take k) k w

set_option maxRecDepth 100000 in
set_option maxHeartbeats 8000000 in
theorem recount_any (W : World) (v : Value) (S : List Clm) (h : ScrArg W v S) (hn : S.length ≤ 9223372036854775807) : Calls Try.prog 4 #[v] W fun r w' => r = .returned (.bool true) ∧ Below W.heap.size W w' := by
  have HA : Hid (ScrArg W v S) := h
  have H18 := bytes18_any W v S h hn
  clear h hn
  go_enter Try.func4, Try.ntmps4
  go_wp2_with fail
  refine H18.mono ?_
  rintro e w' ⟨⟨b, rfl⟩, rfl⟩
  clear H18
  cases b with
  | false =>
    go_wp2
    go_ret
    exact ⟨rfl, Below.refl _ _⟩
  | true =>
    have H8 := fits_any W v S HA.out
    go_wp2_with fail
    refine H8.mono ?_
    rintro e w' ⟨b, rfl, rfl, hfit⟩
    clear H8
    cases b with
    | false =>
      go_wp2
      go_ret
      exact ⟨rfl, Below.refl _ _⟩
    | true =>
      obtain ⟨hbig, hF⟩ := hfit rfl
      have HFS : Hid (FitS S S.length) := hF
      have hlk : ∀ m ∈ S, m.key.length ≤ 65536 := fun m hm => by
        obtain ⟨i, hi⟩ := List.mem_iff_getElem?.1 hm
        exact (hF i m (List.getElem?_eq_some_iff.1 hi).1 hi).1
      have HLK : Hid (∀ m ∈ S, m.key.length ≤ 65536) := hlk
      have H9 := domain_any W v S HA.out hbig hlk
      clear hF hlk hfit
      go_wp2_with fail
      refine H9.mono ?_
      rintro e w' ⟨b, rfl, rfl, hdom⟩
      clear H9
      cases b with
      | false =>
        go_wp2
        go_ret
        exact ⟨rfl, Below.refl _ _⟩
      | true =>
        have HG : Hid (Good S) := good_of HFS.out (hdom rfl)
        have H10 := clone_any W v S HA.out hbig HLK.out
        clear hdom
        go_wp2_with fail
        refine H10.mono ?_
        rintro e w1 ⟨cv, rfl, hcv, hB⟩
        clear H10
        have HW1 : Hid (Below W.heap.size W w1) := hB
        obtain ⟨ad, cp, rfl, hsc⟩ := hcv.open
        clear hcv hB
        obtain ⟨n, hn⟩ : ∃ n, n = S.length := ⟨_, rfl⟩
        rw [← hn] at hsc hbig ⊢
        have HSC : Hid (ScrC w1 ad n S) := hsc
        have HN : Hid (n = S.length) := hn
        clear hsc hn
        have H11 := root_any w1
        obtain ⟨A, hA, hmk⟩ := make_row 28 26 _ 1 8 n under28 info26 (by omega) (by omega)
        rw [Nat.mul_one] at hA
        have HL0 : Hid (OneRel w1 n S (.int .i64 0) ((w1.alloc (.cells (nodeArr (.slice none 0 0) (.pointer none) (.map none) (.pointer none) ⟨0, 0, 0, 0⟩) 57)).alloc (.cells A 26))) := ⟨0, by omega, rfl, LS.start w1 n S A hA⟩
        clear hA
        go_wp2_with fail
        refine H11.mono ?_
        rintro e w2 ⟨rfl, rfl⟩
        clear H11
        have hsz : (w1.alloc (.cells (nodeArr (.slice none 0 0) (.pointer none) (.map none) (.pointer none) ⟨0, 0, 0, 0⟩) 57)).heap.size = w1.heap.size + 1 := by simp
        go_wp2_with fail
        go_loopw [5] (fun i wr => Hid (OneRel w1 n S i wr)) (fun i _ => n - (intOf i).toNat)
        case atStart => exact HL0
        case round =>
          obtain ⟨k, hk, rfl, hls⟩ := hrel.out
          clear hrel
          have HLS : Hid (LS w1 w1.heap.size (w1.heap.size + 1) n S (S.take k) k wr) := hls
          clear hls
          by_cases h1 : k < n
          · obtain ⟨b, rfl, hS⟩ := HSC.out (by omega)
            obtain ⟨m, hm⟩ : ∃ m, S[k]? = some m := ⟨_, List.getElem?_eq_getElem (by rw [← HN.out]; exact h1)⟩
            obtain ⟨kv, c0, hkv, c1, c2⟩ := hS k m hm
            have hbel := HLS.out.below
            have c0 := below_cell hbel c0
            obtain ⟨ad2, cp2, rfl, hK⟩ := hkv.keep hbel
            obtain ⟨g1, g2, g3⟩ := HG.out m (List.mem_of_getElem? hm)
            obtain ⟨l, hl⟩ : ∃ l, l = m.key.length := ⟨_, rfl⟩
            rw [← hl] at c0 hK g2
            have HM : Hid (S[k]? = some m) := hm
            have HL : Hid (l = m.key.length) := hl
            have HD : Hid (∀ s ∈ m.key, StepOk s) := g3
            have HC1 : Hid (w1.cell? ⟨b, k * 3 + 1, none⟩ = some (.int .i64 m.place)) := c1
            have HC2 : Hid (w1.cell? ⟨b, k * 3 + 2, none⟩ = some (.bool m.deny)) := c2
            have HP := keyParts_any wr ad2 l cp2 m.key hl g2 (fun hh => by obtain ⟨kb, e1, e2⟩ := hK hh; exact ⟨kb, 0, e1, e2⟩)
            clear hS hm hbel hK g1 g3 hl c1 c2
            have hi0 : (0 : Int) ≤ (k : Int) := by omega
            have hi1 : (k : Int) < (n : Int) := by omega
            have d1 : decide ((k : Int) < (n : Int)) = true := decide_eq_true hi1
            go_wp2_with fail
            refine HP.mono ?_
            rintro e w2 ⟨Nm, Eb, rfl, f1, f2, hB2⟩
            clear HP c0
            have hF2 : Fr (fun _ => False) wr w2 := Fr.ofBelow hB2
            have HLS2 : Hid (LS w1 w1.heap.size (w1.heap.size + 1) n S (S.take k) k w2) := HLS.out.quiet hF2
            have HC : Hid (∀ W', Fr (fun _ => False) w2 W' → Calls Try.prog 13 #[.pointer (some ⟨w1.heap.size, 0, none⟩), .slice (some ⟨Nm, 0, none⟩) l l, .slice (some ⟨Eb, 0, none⟩) l l, .int .i64 m.place, .bool m.deny] W' fun v w' => ∃ a, v = .returned (.pointer (some ⟨a, 0, none⟩)) ∧ LSA w1 w1.heap.size (w1.heap.size + 1) n S (S.take k ++ [m]) k m a w' ∧ Rows2 W' w') := by
              intro W' hW'
              refine (HLS2.out.quiet hW').count HL.out ?_ ?_ HD.out g2 (f1.keep (hW'.block _ f1.lt (fun f => f))) (f2.keep (hW'.block _ f2.lt (fun f => f)))
              · rw [List.length_take]; omega
              · intro m' hm'
                exact (HG.out m' (List.mem_of_mem_take hm')).1
            have c1 := below_cell HLS2.out.below HC1.out
            have c2 := below_cell HLS2.out.below HC2.out
            obtain ⟨⟨v0, g0⟩, gf⟩ := HLS2.out.has h1
            have hbne : ¬ b = w1.heap.size + 1 := by have := cell_lt HC1.out; omega
            have hbne' : ¬ w1.heap.size + 1 = b := fun e => hbne e.symm
            clear f1 f2 hB2 hF2
            go_wp2_with fail
            go_region_held3 (fun w' => w'.cell? ⟨b, k * 3 + 1, none⟩ = some (.int .i64 m.place) ∧ w'.cell? ⟨b, k * 3 + 2, none⟩ = some (.bool m.deny)) (go_keep)
              (first | (go_at_call 13; refine (HC.out w2.drew (Fr.drewN _ w2 1)).mono ?_; rintro e w3 ⟨a, rfl, hLA, hrows⟩; have c1 := below_cell hLA.below HC1.out; have c2 := below_cell hLA.below HC2.out; obtain ⟨⟨v0, g0⟩, gf⟩ := hLA.has h1; have HLA : Hid (LSA w1 w1.heap.size (w1.heap.size + 1) n S (S.take k ++ [m]) k m a w3) := hLA; clear hLA hrows))
            rename_i hHeld
            clear hHeld
            go_wp2_with fail
            go_roundw
            case rel =>
              refine ⟨k + 1, by omega, by go_num, ?_⟩
              rw [← take_snoc HM.out]
              exact HLA.out.put h1 HM.out (by omega)
            case measure => simp [intOf]; omega
          · have d1 : decide ((k : Int) < (n : Int)) = false := decide_eq_false (by omega)
            obtain ⟨wa, hwa⟩ : ∃ wa, wa = wr := ⟨_, rfl⟩
            subst hwa
            have HLa : Hid (LS w1 w1.heap.size (w1.heap.size + 1) n S S n wa) := by
              have := HLS.out
              rw [show k = n from by omega, HN.out, List.take_length, ← HN.out] at this
              exact this
            obtain ⟨n4, hn4⟩ : ∃ n4, n4 = 4 * n := ⟨_, rfl⟩
            have e4 : 4 * (n : Int) = (n4 : Int) := by omega
            have b4 : n4 ≤ 16384 := by omega
            have HN4 : Hid (n4 = 4 * n) := hn4
            obtain ⟨A4, hA4, hmk4⟩ := make_row 41 3 _ 1 8 n4 under41 info3 (by omega) (by omega)
            rw [Nat.mul_one] at hA4
            have HT0 : Hid (TwoRel w1 wa.heap.size n S (.int .i64 0) (wa.alloc (.cells A4 3))) := ⟨0, by omega, rfl, HLa.out.quiet (Fr.alloc _ _ _), A4, newHeap wa _, by rw [hA4, hn4], fun i m hi => by omega⟩
            have hle : w1.heap.size ≤ wa.heap.size := HLa.out.below.size
            clear hA4 hn4 HLS HL0 hmk
            go_wp2_with fail
            go_loopw [9] (fun i wr => Hid (TwoRel w1 wa.heap.size n S i wr)) (fun i _ => n - (intOf i).toNat)
            case atStart => exact HT0
            case round =>
              clear HT0 hmk4
              obtain ⟨k2, hk2, rfl, hls, hbef⟩ := hrel.out
              clear hrel
              have HLS : Hid (LS w1 w1.heap.size (w1.heap.size + 1) n S S n wr) := hls
              have HBF : Hid (BefAt wr wa.heap.size n S k2) := hbef
              clear hls hbef
              by_cases h2 : k2 < n
              · obtain ⟨m, hm⟩ : ∃ m, S[k2]? = some m := ⟨_, List.getElem?_eq_getElem (by rw [← HN.out]; exact h2)⟩
                obtain ⟨a, ea, ab, mp, ch, g0, hnode, _⟩ := HLS.out.node h2 hm
                have HM : Hid (S[k2]? = some m) := hm
                have HC := fieldClaims_any a ea ab mp ch (claimsOf S m.key) wr hnode
                obtain ⟨C, hC⟩ : ∃ C, C = claimsOf S m.key := ⟨_, rfl⟩
                rw [← hC] at HC
                have HCC : Hid (C = claimsOf S m.key) := hC
                clear hm hnode hC
                have hi0 : (0 : Int) ≤ (k2 : Int) := by omega
                have hi1 : (k2 : Int) < (n : Int) := by omega
                have d2 : decide ((k2 : Int) < (n : Int)) = true := decide_eq_true hi1
                obtain ⟨t, ht⟩ : ∃ t, t = 4 * k2 := ⟨_, rfl⟩
                have et : 4 * (k2 : Int) = (t : Int) := by omega
                have HT : Hid (t = 4 * k2) := ht
                have bt : t + 3 < n4 := by have := HN4.out; omega
                have bt0 : (0 : Int) ≤ (t : Int) := by omega
                have bt1 : (t : Int) < (n4 : Int) := by omega
                have bt2 : (t : Int) + 1 < (n4 : Int) := by omega
                have bt3 : (t : Int) + 2 < (n4 : Int) := by omega
                have bt4 : (t : Int) + 3 < (n4 : Int) := by omega
                clear ht
                go_wp2_with fail
                refine HC.mono ?_
                rintro e w2 ⟨rfl, q, hq⟩
                clear HC g0
                have HLS2 : Hid (LS w1 w1.heap.size (w1.heap.size + 1) n S S n w2) := by rw [hq]; exact HLS.out.quiet (Fr.drewN _ _ _)
                have HBF2 : Hid (BefAt w2 wa.heap.size n S k2) := by rw [hq]; exact HBF.out.keep rfl
                clear hq
                obtain ⟨⟨x0, y0⟩, f0⟩ := HBF2.out.has (i := t) (by have := HN4.out; omega)
                obtain ⟨⟨x1, y1⟩, f1⟩ := HBF2.out.has (i := t + 1) (by have := HN4.out; omega)
                obtain ⟨⟨x2, y2⟩, f2⟩ := HBF2.out.has (i := t + 2) (by have := HN4.out; omega)
                obtain ⟨⟨x3, y3⟩, f3⟩ := HBF2.out.has (i := t + 3) (by have := HN4.out; omega)
                go_wp2_with fail
                go_roundw
                case rel =>
                  have hF := laid4_fr w2 wa.heap.size t C
                  have hb := HBF2.out.put h2 HM.out HT.out
                  rw [← HCC.out] at hb
                  have hl : LS w1 w1.heap.size (w1.heap.size + 1) n S S n (laid4 w2 wa.heap.size t C) := by
                    obtain ⟨arr, q1, _⟩ := HBF2.out
                    exact HLS2.out.keepRow q1 hle hF
                  exact ⟨k2 + 1, by omega, by go_num, hl, hb⟩
                case measure => simp [intOf]; omega
              · have d2 : decide ((k2 : Int) < (n : Int)) = false := decide_eq_false (by omega)
                obtain ⟨wb, hwb⟩ : ∃ wb, wb = wr := ⟨_, rfl⟩
                subst hwb
                have HTh0 : Hid (ThreeRel w1 wa.heap.size n S (.int .i64 0) wb) := ⟨0, by omega, rfl, by rw [List.take_zero, List.append_nil]; exact HLS.out, by have := HBF.out; rw [show k2 = n from by omega] at this; exact this⟩
                clear HLS HBF
                go_wp2_with fail
                go_loopw [14] (fun i wr => Hid (ThreeRel w1 wa.heap.size n S i wr)) (fun i _ => n - (intOf i).toNat)
                case atStart => exact HTh0
                case round =>
                  clear HTh0
                  obtain ⟨k3, hk3, rfl, hls, hbef⟩ := hrel.out
                  clear hrel
                  have HLS : Hid (LS w1 w1.heap.size (w1.heap.size + 1) n S (S ++ S.take k3) n wr) := hls
                  have HBF : Hid (BefAt wr wa.heap.size n S n) := hbef
                  clear hls hbef
                  by_cases h3 : k3 < n
                  · obtain ⟨b, rfl, hS⟩ := HSC.out (by omega)
                    obtain ⟨m, hm⟩ : ∃ m, S[k3]? = some m := ⟨_, List.getElem?_eq_getElem (by rw [← HN.out]; exact h3)⟩
                    obtain ⟨kv, c0, hkv, c1, c2⟩ := hS k3 m hm
                    have hbel := HLS.out.below
                    have c0 := below_cell hbel c0
                    obtain ⟨ad2, cp2, rfl, hK⟩ := hkv.keep hbel
                    obtain ⟨g1, g2, g3⟩ := HG.out m (List.mem_of_getElem? hm)
                    obtain ⟨l, hl⟩ : ∃ l, l = m.key.length := ⟨_, rfl⟩
                    rw [← hl] at c0 hK g2
                    have HM : Hid (S[k3]? = some m) := hm
                    have HL : Hid (l = m.key.length) := hl
                    have HD : Hid (∀ s ∈ m.key, StepOk s) := g3
                    have HC1 : Hid (w1.cell? ⟨b, k3 * 3 + 1, none⟩ = some (.int .i64 m.place)) := c1
                    have HC2 : Hid (w1.cell? ⟨b, k3 * 3 + 2, none⟩ = some (.bool m.deny)) := c2
                    have HP := keyParts_any wr ad2 l cp2 m.key hl g2 (fun hh => by obtain ⟨kb, e1, e2⟩ := hK hh; exact ⟨kb, 0, e1, e2⟩)
                    clear hS hm hbel hK g1 g3 hl c1 c2
                    have hi0 : (0 : Int) ≤ (k3 : Int) := by omega
                    have hi1 : (k3 : Int) < (n : Int) := by omega
                    have d3 : decide ((k3 : Int) < (n : Int)) = true := decide_eq_true hi1
                    go_wp2_with fail
                    refine HP.mono ?_
                    rintro e w2 ⟨Nm, Eb, rfl, f1, f2, hB2⟩
                    clear HP c0
                    have hF2 : Fr (fun _ => False) wr w2 := Fr.ofBelow hB2
                    have HLS2 : Hid (LS w1 w1.heap.size (w1.heap.size + 1) n S (S ++ S.take k3) n w2) := HLS.out.quiet hF2
                    have HBF2 : Hid (BefAt w2 wa.heap.size n S n) := HBF.out.keep (hF2.block _ HBF.out.lt (fun f => f))
                    have HC : Hid (∀ W', Fr (fun _ => False) w2 W' → Calls Try.prog 13 #[.pointer (some ⟨w1.heap.size, 0, none⟩), .slice (some ⟨Nm, 0, none⟩) l l, .slice (some ⟨Eb, 0, none⟩) l l, .int .i64 m.place, .bool m.deny] W' fun v w' => ∃ a, v = .returned (.pointer (some ⟨a, 0, none⟩)) ∧ LSA w1 w1.heap.size (w1.heap.size + 1) n S ((S ++ S.take k3) ++ [m]) n m a w' ∧ Rows2 W' w') := by
                      intro W' hW'
                      refine (HLS2.out.quiet hW').count HL.out ?_ ?_ HD.out g2 (f1.keep (hW'.block _ f1.lt (fun f => f))) (f2.keep (hW'.block _ f2.lt (fun f => f)))
                      · rw [List.length_append, List.length_take]; have := HN.out; omega
                      · intro m' hm'
                        rcases List.mem_append.1 hm' with h | h
                        · exact (HG.out m' h).1
                        · exact (HG.out m' (List.mem_of_mem_take h)).1
                    have c1 := below_cell HLS2.out.below HC1.out
                    have c2 := below_cell HLS2.out.below HC2.out
                    clear f1 f2 hB2 hF2
                    go_wp2_with fail
                    go_region_held3 (fun w' => w'.cell? ⟨b, k3 * 3 + 1, none⟩ = some (.int .i64 m.place) ∧ w'.cell? ⟨b, k3 * 3 + 2, none⟩ = some (.bool m.deny)) (go_keep)
                      (first | (go_at_call 13; refine (HC.out w2.drew (Fr.drewN _ w2 1)).mono ?_; rintro e w3 ⟨a, rfl, hLA, hrows⟩; have c1 := below_cell hLA.below HC1.out; have c2 := below_cell hLA.below HC2.out; have g0 := hLA.same h3 HM.out; have hnq := neq_same ⟨a, 0, none⟩ w3; have HBF3 : Hid (BefAt w3 wa.heap.size n S n) := (HBF2.out.keep (w' := w2.drew) rfl).rows hrows; have HLA : Hid (LSA w1 w1.heap.size (w1.heap.size + 1) n S ((S ++ S.take k3) ++ [m]) n m a w3) := hLA; clear hLA hrows))
                    rename_i hHeld
                    clear hHeld
                    go_wp2_with fail
                    go_roundw
                    case rel =>
                      refine ⟨k3 + 1, by omega, by go_num, ?_, HBF3.out⟩
                      rw [← take_snoc HM.out, ← List.append_assoc]
                      exact HLA.out.forget
                    case measure => simp [intOf]; omega
                  · have d3 : decide ((k3 : Int) < (n : Int)) = false := decide_eq_false (by omega)
                    obtain ⟨wc, hwc⟩ : ∃ wc, wc = wr := ⟨_, rfl⟩
                    subst hwc
                    have HFo0 : Hid (FourRel w1 wa.heap.size n S (.int .i64 0) wc) := ⟨0, by omega, rfl, by have := HLS.out; rw [show k3 = n from by omega, HN.out, List.take_length, ← HN.out] at this; exact this, HBF.out⟩
                    clear HLS HBF
                    go_wp2_with fail
                    go_loopw [18] (fun i wr => Hid (FourRel w1 wa.heap.size n S i wr)) (fun i _ => n - (intOf i).toNat)
                    case atStart => exact HFo0
                    case round =>
                      clear HFo0
                      obtain ⟨k4, hk4, rfl, hls, hbef⟩ := hrel.out
                      clear hrel
                      have HLS : Hid (LS w1 w1.heap.size (w1.heap.size + 1) n S (S ++ S) n wr) := hls
                      have HBF : Hid (BefAt wr wa.heap.size n S n) := hbef
                      clear hls hbef
                      by_cases h5 : k4 < n
                      · obtain ⟨m, hm⟩ : ∃ m, S[k4]? = some m := ⟨_, List.getElem?_eq_getElem (by rw [← HN.out]; exact h5)⟩
                        obtain ⟨a, ea, ab, mp, ch, g0, hnode, _⟩ := HLS.out.node h5 hm
                        have hsame : claimsOf (S ++ S) m.key = claimsOf S m.key := (claims_same (fun m hm => (HG.out m hm).1) (fun m => by rw [List.mem_append]; exact (or_self_iff).symm) m.key).symm
                        rw [hsame] at hnode
                        have HC := fieldClaims_any a ea ab mp ch (claimsOf S m.key) wr hnode
                        obtain ⟨t, ht⟩ : ∃ t, t = 4 * k4 := ⟨_, rfl⟩
                        have hget := HBF.out.get h5 hm ht
                        obtain ⟨C, hC⟩ : ∃ C, C = claimsOf S m.key := ⟨_, rfl⟩
                        rw [← hC] at HC hget
                        clear hm hnode hC hsame
                        have hi0 : (0 : Int) ≤ (k4 : Int) := by omega
                        have hi1 : (k4 : Int) < (n : Int) := by omega
                        have d5 : decide ((k4 : Int) < (n : Int)) = true := decide_eq_true hi1
                        have et : 4 * (k4 : Int) = (t : Int) := by omega
                        have bt : t + 3 < n4 := by have := HN4.out; omega
                        have bt0 : (0 : Int) ≤ (t : Int) := by omega
                        have bt1 : (t : Int) < (n4 : Int) := by omega
                        have bt2 : (t : Int) + 1 < (n4 : Int) := by omega
                        have bt3 : (t : Int) + 2 < (n4 : Int) := by omega
                        have bt4 : (t : Int) + 3 < (n4 : Int) := by omega
                        have HGet : Hid (wr.cell? ⟨wa.heap.size, t, none⟩ = some (.int .i64 C.ch) ∧ wr.cell? ⟨wa.heap.size, t + 1, none⟩ = some (.int .i64 C.de) ∧ wr.cell? ⟨wa.heap.size, t + 2, none⟩ = some (.int .i64 C.cw) ∧ wr.cell? ⟨wa.heap.size, t + 3, none⟩ = some (.int .i64 C.dw)) := hget
                        clear ht hget
                        go_wp2_with fail
                        refine HC.mono ?_
                        rintro e w2 ⟨rfl, q, hq⟩
                        clear HC g0
                        have HLS2 : Hid (LS w1 w1.heap.size (w1.heap.size + 1) n S (S ++ S) n w2) := by rw [hq]; exact HLS.out.quiet (Fr.drewN _ _ _)
                        have HBF2 : Hid (BefAt w2 wa.heap.size n S n) := by rw [hq]; exact HBF.out.keep rfl
                        obtain ⟨y0, y1, y2, y3⟩ : w2.cell? ⟨wa.heap.size, t, none⟩ = some (.int .i64 C.ch) ∧ w2.cell? ⟨wa.heap.size, t + 1, none⟩ = some (.int .i64 C.de) ∧ w2.cell? ⟨wa.heap.size, t + 2, none⟩ = some (.int .i64 C.cw) ∧ w2.cell? ⟨wa.heap.size, t + 3, none⟩ = some (.int .i64 C.dw) := by rw [hq]; exact HGet.out
                        clear hq
                        go_wp2_with fail
                        go_roundw
                        case rel => exact ⟨k4 + 1, by omega, by go_num, HLS2.out, HBF2.out⟩
                        case measure => simp [intOf]; omega
                      · have d5 : decide ((k4 : Int) < (n : Int)) = false := decide_eq_false (by omega)
                        have HFin : Hid (Below W.heap.size W wr) := HW1.out.trans (below_less HW1.out.size HLS.out.below)
                        go_wp2_with fail
                        go_ret
                        exact ⟨rfl, HFin.out⟩
end Go.Proofs.Qxb6602090a
