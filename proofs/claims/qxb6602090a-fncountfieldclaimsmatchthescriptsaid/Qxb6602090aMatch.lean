/-
  Seat b6602090a: FnCountFieldClaimsMatchTheScript (3).
-/
import Derived.Test.Qxb6602090aRecount
namespace Go.Proofs.Qxb6602090a
open Go.RowKit Go.Maps

theorem LS.root {w1 : World} {r N n : Nat} {S R : List Clm} {k : Nat} {w : World} (h : LS w1 r N n S R k w) : ∃ arr, w.heap[r]? = some (.cells arr 57 (0, 0)) := by
  obtain ⟨T, c, h1, _⟩ := h
  obtain ⟨dr, q1, _⟩ := h1.ok.root
  exact ⟨_, h1.rep.cell r dr q1⟩
theorem ptr_ne {a b : Nat} (h : ¬ a = b) : (⟨a, 0, none⟩ : Addr) ≠ ⟨b, 0, none⟩ := fun e => h (congrArg Addr.block e)

/-- The second loop: all is counted; only draws are made. -/
def TwoM (w1 : World) (n : Nat) (S : List Clm) (i : Value) (w : World) : Prop := ∃ k : Nat, k ≤ n ∧ i = .int .i64 k ∧ LS w1 w1.heap.size (w1.heap.size + 1) n S S n w
def ThreeM (w1 : World) (n j : Nat) (S : List Clm) (i : Value) (w : World) : Prop := ∃ k : Nat, k ≤ j ∧ i = .int .i64 k ∧ LS w1 w1.heap.size (w1.heap.size + 1) n S S n w
/-- The fourth: the four summaries over the first i claims. -/
def FourM (w1 : World) (n : Nat) (S : List Clm) (key : Key) (x0 x1 x2 x3 i : Value) (w : World) : Prop := ∃ (k : Nat) (c : Cl), k ≤ n ∧ i = .int .i64 k ∧ c = claimsOf (S.take k) key ∧ x0 = .int .i64 c.ch ∧ x1 = .int .i64 c.de ∧ x2 = .int .i64 c.cw ∧ x3 = .int .i64 c.dw ∧ LS w1 w1.heap.size (w1.heap.size + 1) n S S n w
theorem join_add {c p : Int} (hp : p ≠ 0) : joinc c p = addc c p := by unfold joinc; rw [if_neg hp]

set_option maxRecDepth 100000 in
set_option maxHeartbeats 8000000 in
theorem match_any (W : World) (v : Value) (S : List Clm) (h : ScrArg W v S) (hn : S.length ≤ 9223372036854775807) : Calls Try.prog 3 #[v] W fun r w' => r = .returned (.bool true) ∧ Below W.heap.size W w' := by
  have HA : Hid (ScrArg W v S) := h
  have H7 := bytes7_any W v S h hn
  clear h hn
  go_enter Try.func3, Try.ntmps3
  go_wp2_with fail
  refine H7.mono ?_
  rintro e w' ⟨⟨b, rfl⟩, rfl⟩
  clear H7
  cases b with
  | false =>
    go_wp2
    go_ret
    exact ⟨rfl, Below.refl _ _⟩
  | true =>
    have H8 := fits_any W v S HA.out
    go_wp2_with fail
    refine H8.mono ?_
    rintro e w' ⟨b, rfl, rfl, hfit⟩
    clear H8
    cases b with
    | false =>
      go_wp2
      go_ret
      exact ⟨rfl, Below.refl _ _⟩
    | true =>
      obtain ⟨hbig, hF⟩ := hfit rfl
      have HFS : Hid (FitS S S.length) := hF
      have hlk : ∀ m ∈ S, m.key.length ≤ 65536 := fun m hm => by
        obtain ⟨i, hi⟩ := List.mem_iff_getElem?.1 hm
        exact (hF i m (List.getElem?_eq_some_iff.1 hi).1 hi).1
      have HLK : Hid (∀ m ∈ S, m.key.length ≤ 65536) := hlk
      have H9 := domain_any W v S HA.out hbig hlk
      clear hF hlk hfit
      go_wp2_with fail
      refine H9.mono ?_
      rintro e w' ⟨b, rfl, rfl, hdom⟩
      clear H9
      cases b with
      | false =>
        go_wp2
        go_ret
        exact ⟨rfl, Below.refl _ _⟩
      | true =>
        have HG : Hid (Good S) := good_of HFS.out (hdom rfl)
        have H10 := clone_any W v S HA.out hbig HLK.out
        clear hdom
        go_wp2_with fail
        refine H10.mono ?_
        rintro e w1 ⟨cv, rfl, hcv, hB⟩
        clear H10
        have HW1 : Hid (Below W.heap.size W w1) := hB
        obtain ⟨ad, cp, rfl, hsc⟩ := hcv.open
        clear hcv hB
        obtain ⟨n, hn⟩ : ∃ n, n = S.length := ⟨_, rfl⟩
        rw [← hn] at hsc hbig ⊢
        have HSC : Hid (ScrC w1 ad n S) := hsc
        have HN : Hid (n = S.length) := hn
        clear hsc hn
        have H11 := root_any w1
        obtain ⟨A, hA, hmk⟩ := make_row 28 26 _ 1 8 n under28 info26 (by omega) (by omega)
        rw [Nat.mul_one] at hA
        have HL0 : Hid (OneRel w1 n S (.int .i64 0) ((w1.alloc (.cells (nodeArr (.slice none 0 0) (.pointer none) (.map none) (.pointer none) ⟨0, 0, 0, 0⟩) 57)).alloc (.cells A 26))) := ⟨0, by omega, rfl, LS.start w1 n S A hA⟩
        clear hA
        go_wp2_with fail
        refine H11.mono ?_
        rintro e w2 ⟨rfl, rfl⟩
        clear H11
        have hsz : (w1.alloc (.cells (nodeArr (.slice none 0 0) (.pointer none) (.map none) (.pointer none) ⟨0, 0, 0, 0⟩) 57)).heap.size = w1.heap.size + 1 := by simp
        go_wp2_with fail
        go_loopw [5] (fun i wr => Hid (OneRel w1 n S i wr)) (fun i _ => n - (intOf i).toNat)
        case atStart => exact HL0
        case round =>
          obtain ⟨k, hk, rfl, hls⟩ := hrel.out
          clear hrel
          have HLS : Hid (LS w1 w1.heap.size (w1.heap.size + 1) n S (S.take k) k wr) := hls
          clear hls
          by_cases h1 : k < n
          · obtain ⟨b, rfl, hS⟩ := HSC.out (by omega)
            obtain ⟨m, hm⟩ : ∃ m, S[k]? = some m := ⟨_, List.getElem?_eq_getElem (by rw [← HN.out]; exact h1)⟩
            obtain ⟨kv, c0, hkv, c1, c2⟩ := hS k m hm
            have hbel := HLS.out.below
            have c0 := below_cell hbel c0
            obtain ⟨ad2, cp2, rfl, hK⟩ := hkv.keep hbel
            obtain ⟨g1, g2, g3⟩ := HG.out m (List.mem_of_getElem? hm)
            obtain ⟨l, hl⟩ : ∃ l, l = m.key.length := ⟨_, rfl⟩
            rw [← hl] at c0 hK g2
            have HM : Hid (S[k]? = some m) := hm
            have HL : Hid (l = m.key.length) := hl
            have HD : Hid (∀ s ∈ m.key, StepOk s) := g3
            have HC1 : Hid (w1.cell? ⟨b, k * 3 + 1, none⟩ = some (.int .i64 m.place)) := c1
            have HC2 : Hid (w1.cell? ⟨b, k * 3 + 2, none⟩ = some (.bool m.deny)) := c2
            have HP := keyParts_any wr ad2 l cp2 m.key hl g2 (fun hh => by obtain ⟨kb, e1, e2⟩ := hK hh; exact ⟨kb, 0, e1, e2⟩)
            clear hS hm hbel hK g1 g3 hl c1 c2
            have hi0 : (0 : Int) ≤ (k : Int) := by omega
            have hi1 : (k : Int) < (n : Int) := by omega
            have d1 : decide ((k : Int) < (n : Int)) = true := decide_eq_true hi1
            go_wp2_with fail
            refine HP.mono ?_
            rintro e w2 ⟨Nm, Eb, rfl, f1, f2, hB2⟩
            clear HP c0
            have hF2 : Fr (fun _ => False) wr w2 := Fr.ofBelow hB2
            have HLS2 : Hid (LS w1 w1.heap.size (w1.heap.size + 1) n S (S.take k) k w2) := HLS.out.quiet hF2
            have HC : Hid (∀ W', Fr (fun _ => False) w2 W' → Calls Try.prog 13 #[.pointer (some ⟨w1.heap.size, 0, none⟩), .slice (some ⟨Nm, 0, none⟩) l l, .slice (some ⟨Eb, 0, none⟩) l l, .int .i64 m.place, .bool m.deny] W' fun v w' => ∃ a, v = .returned (.pointer (some ⟨a, 0, none⟩)) ∧ LSA w1 w1.heap.size (w1.heap.size + 1) n S (S.take k ++ [m]) k m a w' ∧ Rows2 W' w') := by
              intro W' hW'
              refine (HLS2.out.quiet hW').count HL.out ?_ ?_ HD.out g2 (f1.keep (hW'.block _ f1.lt (fun f => f))) (f2.keep (hW'.block _ f2.lt (fun f => f)))
              · rw [List.length_take]; omega
              · intro m' hm'
                exact (HG.out m' (List.mem_of_mem_take hm')).1
            have c1 := below_cell HLS2.out.below HC1.out
            have c2 := below_cell HLS2.out.below HC2.out
            obtain ⟨⟨v0, g0⟩, gf⟩ := HLS2.out.has h1
            have hbne : ¬ b = w1.heap.size + 1 := by have := cell_lt HC1.out; omega
            have hbne' : ¬ w1.heap.size + 1 = b := fun e => hbne e.symm
            clear f1 f2 hB2 hF2
            go_wp2_with fail
            go_region_held3 (fun w' => w'.cell? ⟨b, k * 3 + 1, none⟩ = some (.int .i64 m.place) ∧ w'.cell? ⟨b, k * 3 + 2, none⟩ = some (.bool m.deny)) (go_keep)
              (first | (go_at_call 13; refine (HC.out w2.drew (Fr.drewN _ w2 1)).mono ?_; rintro e w3 ⟨a, rfl, hLA, hrows⟩; have c1 := below_cell hLA.below HC1.out; have c2 := below_cell hLA.below HC2.out; obtain ⟨⟨v0, g0⟩, gf⟩ := hLA.has h1; have HLA : Hid (LSA w1 w1.heap.size (w1.heap.size + 1) n S (S.take k ++ [m]) k m a w3) := hLA; clear hLA hrows))
            rename_i hHeld
            clear hHeld
            go_wp2_with fail
            go_roundw
            case rel =>
              refine ⟨k + 1, by omega, by go_num, ?_⟩
              rw [← take_snoc HM.out]
              exact HLA.out.put h1 HM.out (by omega)
            case measure => simp [intOf]; omega
          · have d1 : decide ((k : Int) < (n : Int)) = false := decide_eq_false (by omega)
            obtain ⟨wa, hwa⟩ : ∃ wa, wa = wr := ⟨_, rfl⟩
            subst hwa
            have HTa : Hid (TwoM w1 n S (.int .i64 0) wa) := by
              have := HLS.out
              rw [show k = n from by omega, HN.out, List.take_length, ← HN.out] at this
              exact ⟨0, by omega, rfl, this⟩
            clear HLS HL0 hmk hsz
            go_wp2_with fail
            go_loopw [8] (fun i wr => Hid (TwoM w1 n S i wr)) (fun i _ => n - (intOf i).toNat)
            case atStart => exact HTa
            case round =>
              clear HTa
              obtain ⟨k2, hk2, rfl, hls⟩ := hrel.out
              clear hrel
              obtain ⟨wb, hwb⟩ : ∃ wb, wb = wr := ⟨_, rfl⟩
              subst hwb
              have HLS : Hid (LS w1 w1.heap.size (w1.heap.size + 1) n S S n wb) := hls
              clear hls
              by_cases h2 : k2 < n
              · obtain ⟨b, rfl, hS⟩ := HSC.out (by omega)
                have HSb : Hid (∀ k m, S[k]? = some m → ∃ kv, w1.cell? ⟨b, k * 3, none⟩ = some kv ∧ KeyV w1 kv m.key ∧ w1.cell? ⟨b, k * 3 + 1, none⟩ = some (.int .i64 m.place) ∧ w1.cell? ⟨b, k * 3 + 2, none⟩ = some (.bool m.deny)) := hS
                clear hS
                obtain ⟨m, hm⟩ : ∃ m, S[k2]? = some m := ⟨_, List.getElem?_eq_getElem (by rw [← HN.out]; exact h2)⟩
                obtain ⟨kv, c0, hkv, _, _⟩ := HSb.out k2 m hm
                have hbel := HLS.out.below
                have c0 := below_cell hbel c0
                obtain ⟨adj, cpj, rfl, hkvj⟩ := hkv
                obtain ⟨a, ea, ab, mp, ch, g0, hnode, hroot⟩ := HLS.out.node h2 hm
                obtain ⟨rr, hrr⟩ := HLS.out.root
                obtain ⟨l, hl⟩ : ∃ l, l = m.key.length := ⟨_, rfl⟩
                have HKV : Hid (KeyV w1 (.slice adj l cpj) m.key) := ⟨adj, cpj, by rw [hl], hkvj⟩
                rw [← hl] at c0
                clear hkvj
                have HM : Hid (S[k2]? = some m) := hm
                have HL : Hid (l = m.key.length) := hl
                have HND : Hid (wb.heap[a]? = some (.cells (nodeArr ea ab mp ch (claimsOf S m.key)) 57 (0, 0))) := hnode
                have hl1 := (HG.out m (List.mem_of_getElem? hm)).2.1
                rw [← hl] at hl1
                have hi0 : (0 : Int) ≤ (k2 : Int) := by omega
                have hi1 : (k2 : Int) < (n : Int) := by omega
                have d2 : decide ((k2 : Int) < (n : Int)) = true := decide_eq_true hi1
                have HJ0 : Hid (ThreeM w1 n k2 S (.int .i64 0) wb) := ⟨0, by omega, rfl, HLS.out⟩
                have hcase : (l = 0 ∧ a = w1.heap.size) ∨ (¬ l = 0 ∧ ¬ a = w1.heap.size) := by
                  by_cases e : l = 0
                  · exact .inl ⟨e, hroot.1 (List.eq_nil_of_length_eq_zero (by omega))⟩
                  · exact .inr ⟨e, fun h => e (by rw [hl, hroot.2 h]; rfl)⟩
                obtain ⟨bl, hq, hbl⟩ : ∃ bl, (binOp .eql 26 (.pointer (some ⟨a, 0, none⟩)) (.pointer (some ⟨w1.heap.size, 0, none⟩))).run Try.prog wb = .ok (.bool bl) wb ∧ ((l : Int) == 0) = bl := by
                  rcases hcase with ⟨hl0, har⟩ | ⟨hl0, har⟩
                  · exact ⟨true, by rw [har]; exact eql_same _ wb, by rw [hl0]; rfl⟩
                  · exact ⟨false, eql_other (ptr_ne har) HND.out hrr, by rw [beq_eq_false_iff_ne]; omega⟩
                clear hm hl hnode hbel hroot hcase hrr
                go_wp2_with fail
                go_loopw [10] (fun i wr => Hid (ThreeM w1 n k2 S i wr)) (fun i _ => k2 - (intOf i).toNat)
                case atStart => exact HJ0
                case round =>
                  clear HJ0 hq hbl g0 c0
                  obtain ⟨k3, hk3, rfl, hls⟩ := hrel.out
                  clear hrel
                  obtain ⟨wc, hwc⟩ : ∃ wc, wc = wr := ⟨_, rfl⟩
                  subst hwc
                  have HLS3 : Hid (LS w1 w1.heap.size (w1.heap.size + 1) n S S n wc) := hls
                  clear hls
                  have HKJ : Hid (KeyV wc (.slice adj l cpj) m.key) := HKV.out.keep HLS3.out.below
                  by_cases h3 : k3 < k2
                  · obtain ⟨m3, hm3⟩ : ∃ m3, S[k3]? = some m3 := ⟨_, List.getElem?_eq_getElem (by rw [← HN.out]; omega)⟩
                    obtain ⟨kv3, c3, hkv3, _, _⟩ := HSb.out k3 m3 hm3
                    have c3 := below_cell HLS3.out.below c3
                    have hkv3 := hkv3.keep HLS3.out.below
                    obtain ⟨aj, _, _, _, _, gj, hnj, _⟩ := HLS3.out.node h2 HM.out
                    obtain ⟨a3, _, _, _, _, g3, hn3, _⟩ := HLS3.out.node (i := k3) (by omega) hm3
                    have heq := HLS3.out.eq (i := k3) (by omega) hm3 h2 HM.out g3 gj
                    have hl3 := (HG.out m3 (List.mem_of_getElem? hm3)).2.1
                    obtain ⟨bl, hq, hbl⟩ : ∃ bl, (∀ q, (binOp .eql 26 (.pointer (some ⟨a3, 0, none⟩)) (.pointer (some ⟨aj, 0, none⟩))).run Try.prog (wc.drewN q) = .ok (.bool bl) (wc.drewN q)) ∧ decide (m3.key = m.key) = bl := by
                      by_cases e : a3 = aj
                      · refine ⟨true, fun q => ?_, decide_eq_true (heq.1 e)⟩
                        rw [e]; exact eql_same _ _
                      · exact ⟨false, fun q => eql_other (w := wc.drewN q) (ptr_ne e) hn3 hnj, decide_eq_false (fun h => e (heq.2 h))⟩
                    have HSame : Hid (∀ q, Calls Try.prog 14 #[kv3, .slice adj l cpj] (wc.drewN q) fun r w' => r = .returned (.bool bl) ∧ ∃ n, w' = (wc.drewN q).drewN n) := by
                      intro q
                      have := same_any (wc.drewN q) kv3 (.slice adj l cpj) m3.key m.key (hkv3.keep (below_drewN (Below.refl _ _) q)) (HKJ.out.keep (below_drewN (Below.refl _ _) q)) hl3 (by rw [← HL.out]; exact hl1)
                      rw [hbl] at this
                      exact this
                    have hi30 : (0 : Int) ≤ (k3 : Int) := by omega
                    have hi31 : (k3 : Int) < (n : Int) := by omega
                    have d3 : decide ((k3 : Int) < (k2 : Int)) = true := decide_eq_true (by omega)
                    have HL3q : Hid (∀ q, LS w1 w1.heap.size (w1.heap.size + 1) n S S n (wc.drewN q)) := fun q => HLS3.out.quiet (Fr.drewN _ _ _)
                    obtain ⟨ad3, cp3, rfl, _⟩ := hkv3
                    clear hm3 hnj hn3 heq hbl
                    go_wp2_with fail
                    go_quiet (first | (go_at_call 14; refine Calls.quiet_of (HSame.out _)))
                    go_wp2_with fail
                    go_roundw
                    case rel => exact ⟨k3 + 1, by omega, by go_num, HL3q.out _⟩
                    case measure => simp [intOf]; omega
                  · have d3 : decide ((k3 : Int) < (k2 : Int)) = false := decide_eq_false (by omega)
                    have HF0 : Hid (FourM w1 n S m.key (.int .i64 0) (.int .i64 0) (.int .i64 0) (.int .i64 0) (.int .i64 0) wc) := ⟨0, claimsOf [] m.key, by omega, rfl, rfl, rfl, rfl, rfl, rfl, HLS3.out⟩
                    clear HLS3 HKJ
                    go_wp2_with fail
                    go_loopw [11, 12, 13, 14, 15] (fun x0 x1 x2 x3 i wr => Hid (FourM w1 n S m.key x0 x1 x2 x3 i wr)) (fun _ _ _ _ i _ => n - (intOf i).toNat)
                    case atStart => exact HF0
                    case round =>
                      clear HF0
                      obtain ⟨k4, C, hk4, rfl, hC, rfl, rfl, rfl, rfl, hls⟩ := hrel.out
                      clear hrel
                      obtain ⟨wd, hwd⟩ : ∃ wd, wd = wr := ⟨_, rfl⟩
                      subst hwd
                      have HLS4 : Hid (LS w1 w1.heap.size (w1.heap.size + 1) n S S n wd) := hls
                      have HC4 : Hid (C = claimsOf (S.take k4) m.key) := hC
                      clear hls hC
                      have HKJ : Hid (KeyV wd (.slice adj l cpj) m.key) := HKV.out.keep HLS4.out.below
                      by_cases h4 : k4 < n
                      · obtain ⟨m4, hm4⟩ : ∃ m4, S[k4]? = some m4 := ⟨_, List.getElem?_eq_getElem (by rw [← HN.out]; omega)⟩
                        obtain ⟨kv4, c4, hkv4, c41, c42⟩ := HSb.out k4 m4 hm4
                        have c4 := below_cell HLS4.out.below c4
                        have c41 := below_cell HLS4.out.below c41
                        have hkv4 := hkv4.keep HLS4.out.below
                        obtain ⟨hp0, hl4, _⟩ := HG.out m4 (List.mem_of_getElem? hm4)
                        obtain ⟨p, hp⟩ : ∃ p, p = m4.place := ⟨_, rfl⟩
                        rw [← hp] at c41 hp0
                        have HP4 : Hid (p = m4.place) := hp
                        have HPN : Hid (p ≠ 0) := hp0
                        have HM4 : Hid (S[k4]? = some m4) := hm4
                        have HC42 : Hid (w1.cell? ⟨b, k4 * 3 + 2, none⟩ = some (.bool m4.deny)) := c42
                        have hi40 : (0 : Int) ≤ (k4 : Int) := by omega
                        have hi41 : (k4 : Int) < (n : Int) := by omega
                        have d4 : decide ((k4 : Int) < (n : Int)) = true := decide_eq_true hi41
                        have HSame := same_any wd kv4 (.slice adj l cpj) m4.key m.key hkv4 HKJ.out hl4 (by rw [← HL.out]; exact hl1)
                        have HKV4 : Hid (KeyV wd kv4 m4.key) := hkv4
                        have HL4 : Hid (m4.key.length ≤ 65536) := hl4
                        obtain ⟨ad4, cp4, rfl, _⟩ := hkv4
                        clear hm4 hp hp0 c42 hl4
                        by_cases hsame : m4.key = m.key
                        · rw [decide_eq_true hsame] at HSame
                          have HEq : Hid (m4.key = m.key) := hsame
                          have HNext : Hid (C.count p m4.deny false = claimsOf (S.take (k4 + 1)) m.key) := by
                            rw [Hid, ← take_snoc HM4.out, HC4.out, HP4.out, ← HEq.out]
                            exact claims_at _ _
                          clear hsame
                          go_wp2_with fail
                          refine HSame.mono ?_
                          rintro e w2 ⟨rfl, q, hq⟩
                          have HLSq : Hid (LS w1 w1.heap.size (w1.heap.size + 1) n S S n w2) := by rw [hq]; exact HLS4.out.quiet (Fr.drewN _ _ _)
                          have c42 := below_cell HLSq.out.below HC42.out
                          clear hq HSame c4 c41
                          have HJ := join_any C.ch p w2
                          rw [join_add HPN.out] at HJ
                          go_wp2_with fail
                          refine HJ.mono ?_
                          rintro e w3 ⟨rfl, rfl⟩
                          clear HJ
                          obtain ⟨dy, hdy⟩ : ∃ dy, dy = m4.deny := ⟨_, rfl⟩
                          rw [← hdy] at c42
                          have HNext2 : Hid (C.count p dy false = claimsOf (S.take (k4 + 1)) m.key) := by rw [hdy]; exact HNext.out
                          clear hdy
                          cases dy with
                          | true =>
                            have HJ := join_any C.de p w2
                            rw [join_add HPN.out] at HJ
                            go_wp2_with fail
                            refine HJ.mono ?_
                            rintro e w3 ⟨rfl, rfl⟩
                            clear HJ
                            go_wp2_with fail
                            go_roundw
                            case rel => exact ⟨k4 + 1, ⟨addc C.ch p, addc C.de p, C.cw, C.dw⟩, by omega, by go_num, by rw [← HNext2.out]; rfl, rfl, rfl, rfl, rfl, HLSq.out⟩
                            case measure => simp [intOf]; omega
                          | false =>
                            go_wp2_with fail
                            go_roundw
                            case rel => exact ⟨k4 + 1, ⟨addc C.ch p, C.de, C.cw, C.dw⟩, by omega, by go_num, by rw [← HNext2.out]; rfl, rfl, rfl, rfl, rfl, HLSq.out⟩
                            case measure => simp [intOf]; omega
                        · rw [decide_eq_false hsame] at HSame
                          have HNe : Hid (m4.key ≠ m.key) := hsame
                          clear hsame
                          go_wp2_with fail
                          refine HSame.mono ?_
                          rintro e w2 ⟨rfl, q, hq⟩
                          have HLSq : Hid (LS w1 w1.heap.size (w1.heap.size + 1) n S S n w2) := by rw [hq]; exact HLS4.out.quiet (Fr.drewN _ _ _)
                          have hbq : Below wd.heap.size wd w2 := by rw [hq]; exact below_drewN (Below.refl _ _) q
                          have c42 := below_cell HLSq.out.below HC42.out
                          by_cases hl0 : 0 < l
                          · have dl : decide ((l : Int) > 0) = true := decide_eq_true (by omega)
                            have HProp := proper_any w2 (.slice adj l cpj) (.slice ad4 m4.key.length cp4) m.key m4.key (HKJ.out.keep hbq) (HKV4.out.keep hbq) (by rw [← HL.out]; exact hl1) HL4.out
                            obtain ⟨pb, hpb⟩ : ∃ pb, pb = properB m.key m4.key := ⟨_, rfl⟩
                            rw [← hpb] at HProp
                            have HPB : Hid (pb = properB m.key m4.key) := hpb
                            clear hq HSame c4 c41 hbq hpb
                            go_wp2_with fail
                            refine HProp.mono ?_
                            rintro e w3 ⟨rfl, q3, hq3⟩
                            have HLSr : Hid (LS w1 w1.heap.size (w1.heap.size + 1) n S S n w3) := by rw [hq3]; exact HLSq.out.quiet (Fr.drewN _ _ _)
                            have c42 := below_cell HLSr.out.below HC42.out
                            clear hq3 HProp
                            have hkn : m.key ≠ [] := fun h => by have := HL.out; rw [h] at this; simp at this; omega
                            cases pb with
                            | true =>
                              have hpp : m.key <+: m4.key ∧ m4.key ≠ m.key := of_decide_eq_true HPB.out.symm
                              have HNext : Hid (C.count p m4.deny true = claimsOf (S.take (k4 + 1)) m.key) := by
                                rw [Hid, ← take_snoc HM4.out, HC4.out, HP4.out]
                                exact claims_in hkn hpp.1 hpp.2
                              clear hkn hpp
                              have HJ := join_any C.cw p w3
                              rw [join_add HPN.out] at HJ
                              go_wp2_with fail
                              refine HJ.mono ?_
                              rintro e w4 ⟨rfl, rfl⟩
                              clear HJ
                              obtain ⟨dy, hdy⟩ : ∃ dy, dy = m4.deny := ⟨_, rfl⟩
                              rw [← hdy] at c42
                              have HNext2 : Hid (C.count p dy true = claimsOf (S.take (k4 + 1)) m.key) := by rw [hdy]; exact HNext.out
                              clear hdy
                              cases dy with
                              | true =>
                                have HJ := join_any C.dw p w3
                                rw [join_add HPN.out] at HJ
                                go_wp2_with fail
                                refine HJ.mono ?_
                                rintro e w4 ⟨rfl, rfl⟩
                                clear HJ
                                go_wp2_with fail
                                go_roundw
                                case rel => exact ⟨k4 + 1, ⟨C.ch, C.de, addc C.cw p, addc C.dw p⟩, by omega, by go_num, by rw [← HNext2.out]; rfl, rfl, rfl, rfl, rfl, HLSr.out⟩
                                case measure => simp [intOf]; omega
                              | false =>
                                go_wp2_with fail
                                go_roundw
                                case rel => exact ⟨k4 + 1, ⟨C.ch, C.de, addc C.cw p, C.dw⟩, by omega, by go_num, by rw [← HNext2.out]; rfl, rfl, rfl, rfl, rfl, HLSr.out⟩
                                case measure => simp [intOf]; omega
                            | false =>
                              have HNext : Hid (C = claimsOf (S.take (k4 + 1)) m.key) := by
                                rw [Hid, ← take_snoc HM4.out, HC4.out]
                                exact (claims_other (fun h => of_decide_eq_false HPB.out.symm ⟨h, HNe.out⟩)).symm
                              clear hkn
                              go_wp2_with fail
                              go_roundw
                              case rel => exact ⟨k4 + 1, C, by omega, by go_num, HNext.out, rfl, rfl, rfl, rfl, HLSr.out⟩
                              case measure => simp [intOf]; omega
                          · have dl : decide ((l : Int) > 0) = false := decide_eq_false (by omega)
                            have HNext : Hid (C = claimsOf (S.take (k4 + 1)) m.key) := by
                              have hk0 : m.key = [] := List.eq_nil_of_length_eq_zero (by rw [← HL.out]; omega)
                              have hne := HNe.out
                              rw [hk0] at hne
                              rw [Hid, ← take_snoc HM4.out, HC4.out, hk0]
                              exact (claims_root hne).symm
                            clear hq HSame c4 c41 hbq
                            go_wp2_with fail
                            go_roundw
                            case rel => exact ⟨k4 + 1, C, by omega, by go_num, HNext.out, rfl, rfl, rfl, rfl, HLSq.out⟩
                            case measure => simp [intOf]; omega
                      · have d4 : decide ((k4 : Int) < (n : Int)) = false := decide_eq_false (by omega)
                        obtain ⟨aj, e1, e2, e3, e4, gj, hnj, _⟩ := HLS4.out.node h2 HM.out
                        have hCS : claimsOf S m.key = C := by
                          rw [HC4.out, show k4 = n from by omega, HN.out, List.take_length]
                        rw [hCS] at hnj
                        have HFC := fieldClaims_any aj e1 e2 e3 e4 C wd hnj
                        clear hnj hCS
                        go_wp2_with fail
                        refine HFC.mono ?_
                        rintro e w2 ⟨rfl, q, hq⟩
                        have HLSq : Hid (LS w1 w1.heap.size (w1.heap.size + 1) n S S n w2) := by rw [hq]; exact HLS4.out.quiet (Fr.drewN _ _ _)
                        clear hq HFC gj
                        go_wp2_with fail
                        go_roundw
                        case rel => exact ⟨k2 + 1, by omega, by go_num, HLSq.out⟩
                        case measure => simp [intOf]; omega
              · have d2 : decide ((k2 : Int) < (n : Int)) = false := decide_eq_false (by omega)
                have HFin : Hid (Below W.heap.size W wb) := HW1.out.trans (below_less HW1.out.size HLS.out.below)
                go_wp2_with fail
                go_ret
                exact ⟨rfl, HFin.out⟩
end Go.Proofs.Qxb6602090a
