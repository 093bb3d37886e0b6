/-
  Seat b6602195a: compactJSON (18), ZZCompactJSON (12), zzSameBytes (13).
-/
import Derived.Test.Qxb6602195aModel
namespace Go.Proofs.Qxb6602195a
open Go.RowKit

theorem append_nil_nil (w : World) : (Builtin.append_ #[23, 23] 23 #[.slice none 0 0, .slice none 0 0]).run Try.prog w = .ok (.slice none 0 0) w := by
  obtain ⟨i0, hi, hz0, hz1, hz2⟩ := info_parts info5
  simp [Builtin.append_, run_underlying Try.underlying23, sizeOf, typeInfo, hi, Builtin.lenOf, Builtin.firstCells]
theorem append_some_nil (w : World) (g n cap : Nat) (h : n ≤ cap) : (Builtin.append_ #[23, 23] 23 #[.slice (some ⟨g, 0, none⟩) n cap, .slice none 0 0]).run Try.prog w = .ok (.slice (some ⟨g, 0, none⟩) n cap) w := by
  obtain ⟨i0, hi, hz0, hz1, hz2⟩ := info_parts info5
  simp [Builtin.append_, run_underlying Try.underlying23, sizeOf, typeInfo, hi, Builtin.lenOf, Builtin.firstCells, storeCells, h]
theorem elem23 : Try.prog.elem 23 = 5 := by kernel_rfl
theorem slice_lh (T n f i : Nat) (h1 : f ≤ i) (h2 : i < n) (w : World) : (Instr.slice 23 (.slice (some ⟨T, 0, none⟩) n n) (some (.int .i64 (f : Int))) (some (.int .i64 (i : Int))) none).run Try.prog w = .ok (.slice (some ⟨T, f, none⟩) (i - f) (n - f)) w := by
  have hsz : (sizeOf 5).run Try.prog w = .ok 1 w := by simp [go_sem]
  rw [run_slice_lh w 23 (some ⟨T, 0, none⟩) n n (by rw [elem23]; exact Try.underlying23) .i64 .i64 f i (by omega) (by omega) (by omega), elem23, hsz]
  have hne : ¬ n = f := by omega
  simp [sliced, addr_add, hne]
/-- Where 'text[f:]' begins: at the row's head where nothing is left. -/
def tailAt (T n f : Nat) : Addr := if n = f then ⟨T, 0, none⟩ else ⟨T, f, none⟩
theorem slice_l (T n f : Nat) (h1 : f ≤ n) (w : World) : (Instr.slice 23 (.slice (some ⟨T, 0, none⟩) n n) (some (.int .i64 (f : Int))) none none).run Try.prog w = .ok (.slice (some (tailAt T n f)) (n - f) (n - f)) w := by
  have hsz : (sizeOf 5).run Try.prog w = .ok 1 w := by simp [go_sem]
  rw [run_slice_l w 23 (some ⟨T, 0, none⟩) n n (by rw [elem23]; exact Try.underlying23) .i64 f (by omega) (by omega), elem23, hsz]
  unfold tailAt
  by_cases hne : n = f
  · simp [sliced, hne]
  · simp [sliced, addr_add, hne]

/-- The slice v that compactJSON appends to: what it owns, that it is nil just where vd was and nothing has come, that it lies in vd's row or in a new one, and that nothing else of W has turned. -/
structure App (B : Nat) (W : World) (vd v : Value) (xs : List Int) (w : World) : Prop where
  own : w.ownsRow B 5 1 v xs.length (cellsOf xs)
  nil : v = .slice none 0 0 ↔ vd = .slice none 0 0 ∧ xs.length = 0
  lies : v.ownBlock = vd.ownBlock ∨ ∃ g, v.ownBlock = some g ∧ W.heap.size ≤ g
  grown : W.grownBy w vd.ownBlock
  base : B ≤ W.heap.size

theorem App.start {B : Nat} {W : World} {vd : Value} {xs : List Int} (h : W.ownsRow B 5 1 vd xs.length (cellsOf xs)) (hB : B ≤ W.heap.size) : App B W vd vd xs W where
  own := h
  nil := ⟨fun e => ⟨e, by
    rcases h.2 with ⟨_, h0⟩ | ⟨g, cap, cur, hv, _⟩
    · exact h0
    · rw [e] at hv; cases hv⟩, fun e => e.1⟩
  lies := .inl rfl
  grown := ⟨rfl, rfl, rfl, Nat.le_refl _, fun _ _ _ => rfl⟩
  base := hB

theorem App.step {B : Nat} {W w w1 : World} {vd v v' : Value} {xs ys : List Int} {m : Nat} (h : App B W vd v xs w) (hm : ys.length = m) (ho : w1.ownsRow B 5 1 v' (xs.length + m) (cellsOf xs ++ cellsOf ys)) (hg : w.grownBy w1 v.ownBlock)
    (hn : v' = .slice none 0 0 ↔ v = .slice none 0 0 ∧ m = 0) (hat : v'.ownBlock = v.ownBlock ∨ v'.ownBlock = some w.heap.size) : App B W vd v' (xs ++ ys) w1 where
  own := by
    have e1 : (xs ++ ys).length = xs.length + m := by simp [hm]
    have e2 : cellsOf (xs ++ ys) = cellsOf xs ++ cellsOf ys := by simp [cellsOf]
    rw [e1, e2]; exact ho
  nil := by
    rw [hn, h.nil, List.length_append, hm]
    constructor
    · rintro ⟨⟨a, b⟩, c⟩; exact ⟨a, by omega⟩
    · rintro ⟨a, b⟩; exact ⟨⟨a, by omega⟩, by omega⟩
  lies := by
    rcases hat with e | e
    · rw [e]; exact h.lies
    · exact .inr ⟨_, e, h.grown.size⟩
  grown := by
    refine ⟨hg.os.trans h.grown.os, hg.tape.trans h.grown.tape, hg.output.trans h.grown.output, Nat.le_trans h.grown.size hg.size, fun k hk hne => ?_⟩
    rw [hg.block k (Nat.lt_of_lt_of_le hk h.grown.size) ?_]
    · exact h.grown.block k hk hne
    · rcases h.lies with e | ⟨g, e, hgt⟩
      · rw [e]; exact hne
      · rw [e]; intro e2; have := Option.some.inj e2; omega
  base := h.base

/-- The text's row, in a world that App speaks of. -/
theorem App.text {B T : Nat} {W w : World} {vd v : Value} {xs : List Int} (h : App B W vd v xs w) (hT : T < W.heap.size) (hne : vd.ownBlock ≠ some T) (k : Nat) : w.cell? ⟨T, k, none⟩ = W.cell? ⟨T, k, none⟩ :=
  World.cell?_of_block (h.grown.block T hT (fun e => hne e.symm))

theorem cells_one (l : List Int) : ∀ u ∈ cellsOf l, u.oneCell' = true := fun u hu => by
  obtain ⟨x, _, rfl⟩ := List.mem_map.1 hu
  rfl

theorem seg_len (l : List Int) (f i : Nat) (h1 : f ≤ i) (h2 : i ≤ l.length) : ((l.drop f).take (i - f)).length = i - f := by
  rw [List.length_take, List.length_drop]; omega
theorem seg_cells {w : World} {T : Nat} {l : List Int} (hc : ∀ k, k < l.length → w.cell? ⟨T, k, none⟩ = some (.int .u8 (l.getD k 0))) (f i : Nat) (h1 : f ≤ i) (h2 : i ≤ l.length) :
    ∀ j u, (cellsOf ((l.drop f).take (i - f)))[j]? = some u → w.cell? ((⟨T, f, none⟩ : Addr).add j) = some u := by
  intro j u hu
  have hj : j < i - f := by
    have := (List.getElem?_eq_some_iff.1 hu).1
    rw [cellsOf_length, seg_len l f i h1 h2] at this; exact this
  rw [addr_add, hc (f + j) (by omega)]
  simp only [cellsOf, List.getElem?_map, List.getElem?_take, List.getElem?_drop, if_pos hj] at hu
  rw [List.getD_eq_getElem?_getD]
  rw [List.getElem?_eq_getElem (by omega)] at hu ⊢
  exact hu
theorem tail_cells {w : World} {T : Nat} {l : List Int} (hc : ∀ k, k < l.length → w.cell? ⟨T, k, none⟩ = some (.int .u8 (l.getD k 0))) (f : Nat) (h1 : f ≤ l.length) :
    ∀ j u, (cellsOf (l.drop f))[j]? = some u → w.cell? ((tailAt T l.length f).add j) = some u := by
  intro j u hu
  by_cases hne : l.length = f
  · rw [hne.symm, List.drop_length] at hu; simp [cellsOf] at hu
  · unfold tailAt
    rw [if_neg hne]
    have := seg_cells hc f l.length h1 (Nat.le_refl _) j u
    rw [List.take_of_length_le (by rw [List.length_drop]; exact Nat.le_refl _)] at this
    exact this hu

/-- isSpace (of the project). -/
theorem isSpaceP_any (y : Int) (w : World) : Calls Try.prog 20 #[.int .u8 y] w fun e w' => e = .returned (.bool (spaceB y)) ∧ w = w' := by
  unfold spaceB
  by_cases h1 : y = 32
  · subst h1
    go_enter Try.func20, Try.ntmps20
    go_wp2
    go_ret
    exact ⟨rfl, rfl⟩
  · have k1 : (y == 32) = false := by rw [beq_eq_false_iff_ne]; exact h1
    by_cases h2 : y = 9
    · subst h2
      go_enter Try.func20, Try.ntmps20
      go_wp2
      go_ret
      exact ⟨rfl, rfl⟩
    · have k2 : (y == 9) = false := by rw [beq_eq_false_iff_ne]; exact h2
      by_cases h3 : y = 10
      · subst h3
        go_enter Try.func20, Try.ntmps20
        go_wp2
        go_ret
        exact ⟨rfl, rfl⟩
      · have k3 : (y == 10) = false := by rw [beq_eq_false_iff_ne]; exact h3
        by_cases h4 : y = 13
        · subst h4
          go_enter Try.func20, Try.ntmps20
          go_wp2
          go_ret
          exact ⟨rfl, rfl⟩
        · have k4 : (y == 13) = false := by rw [beq_eq_false_iff_ne]; exact h4
          go_enter Try.func20, Try.ntmps20
          go_wp2
          go_ret
          exact ⟨by simp [k1, k2, k3, k4], rfl⟩

/-- One round's effect on the bytes not yet appended: kept. -/
theorem keep_step {ld lt xs : List Int} {f i : Nat} (hf : f ≤ i) (hi : i < lt.length) (h : xs ++ (lt.drop f).take (i - f) = ld ++ (run lt i).out) (ho : (run lt (i+1)).out = (run lt i).out ++ [lt.getD i 0]) :
    xs ++ (lt.drop f).take (i + 1 - f) = ld ++ (run lt (i+1)).out := by
  rw [ho, ← List.append_assoc, ← h, List.append_assoc]
  congr 1
  rw [show i + 1 - f = (i - f) + 1 from by omega, take_snoc (lt.drop f) (i - f) (by rw [List.length_drop]; omega)]
  congr 2
  rw [List.getD_eq_getElem?_getD, List.getElem?_drop, List.getD_eq_getElem?_getD]
  congr 2
  congr 1
  omega

set_option maxRecDepth 100000 in
set_option maxHeartbeats 4000000 in
theorem compact_row (B : Nat) (W : World) (vd : Value) (ld lt : List Int) (T : Nat) (hS : App B W vd vd ld W) (hT : T < W.heap.size) (hTd : vd.ownBlock ≠ some T)
    (hc : ∀ k, k < lt.length → W.cell? ⟨T, k, none⟩ = some (.int .u8 (lt.getD k 0))) (nd : ld.length ≤ 524288) (nt : lt.length ≤ 524288) :
    Calls Try.prog 18 #[vd, .slice (some ⟨T, 0, none⟩) lt.length lt.length] W fun e w' => ∃ v, e = .returned v ∧ App B W vd v (ld ++ (run lt lt.length).out) w' := by
  obtain ⟨i0, hi, hz0, hz1, hz2⟩ := info_parts info5
  have HC : Hid (∀ k, k < lt.length → W.cell? ⟨T, k, none⟩ = some (.int .u8 (lt.getD k 0))) := hc
  clear hc
  go_enter Try.func18, Try.ntmps18
  go_wp2
  go_loopw [0, 5, 6, 7, 12] (fun v fr qq ee i wr => ∃ k f : Nat, ∃ xs : List Int, k ≤ lt.length ∧ f ≤ k ∧ i = .int .i64 k ∧ fr = .int .i64 f ∧ qq = .bool (run lt k).q ∧ ee = .bool (run lt k).e ∧ App B W vd v xs wr ∧ Hid (xs ++ (lt.drop f).take (k - f) = ld ++ (run lt k).out)) (fun _ _ _ _ i _ => lt.length - (intOf i).toNat)
  case atStart => exact ⟨0, 0, ld, by omega, by omega, rfl, rfl, rfl, rfl, hS, by simp [Hid, run_zero]⟩
  case round =>
    clear hS
    obtain ⟨k, f, xs, hk, hf, rfl, rfl, rfl, rfl, hA, HX⟩ := hrel
    by_cases hlt : k < lt.length
    · obtain ⟨y, hy⟩ : ∃ y, y = lt.getD k 0 := ⟨_, rfl⟩
      have hcell : wr.cell? ⟨T, k, none⟩ = some (.int .u8 y) := by rw [hA.text hT hTd, HC.out k hlt, hy]
      cases he : (run lt k).e with
      | true =>
        have HR : Hid (run lt (k+1) = ⟨(run lt k).q, false, (run lt k).out ++ [lt.getD k 0]⟩) := run_esc hlt he
        have HX2 : Hid (xs ++ (lt.drop f).take (k + 1 - f) = ld ++ (run lt (k+1)).out) := keep_step hf hlt HX.out (by rw [HR.out])
        clear hy
        go_wp2
        go_roundw
        case rel => exact ⟨k + 1, f, xs, by omega, by omega, by go_num, rfl, by rw [HR.out], by rw [HR.out], hA, HX2⟩
        case measure => simp [intOf]; omega
      | false =>
        cases hq : (run lt k).q with
        | true =>
          have HR : Hid (run lt (k+1) = ⟨y != 34, y == 92, (run lt k).out ++ [lt.getD k 0]⟩) := by rw [hy]; exact run_in hlt hq he
          have HX2 : Hid (xs ++ (lt.drop f).take (k + 1 - f) = ld ++ (run lt (k+1)).out) := keep_step hf hlt HX.out (by rw [HR.out])
          clear hy
          go_wp2
          go_roundw
          case rel => exact ⟨k + 1, f, xs, by omega, by omega, by go_num, rfl, by rw [HR.out], by rw [HR.out], hA, HX2⟩
          case measure => simp [intOf]; omega
        | false =>
          by_cases c1 : y = 34
          · have HR : Hid (run lt (k+1) = ⟨true, false, (run lt k).out ++ [lt.getD k 0]⟩) := by rw [hy] at c1; exact run_open hlt hq he c1
            have HX2 : Hid (xs ++ (lt.drop f).take (k + 1 - f) = ld ++ (run lt (k+1)).out) := keep_step hf hlt HX.out (by rw [HR.out])
            have c1' : (y == 34) = true := by rw [beq_iff_eq]; exact c1
            clear hy c1
            go_wp2
            go_roundw
            case rel => exact ⟨k + 1, f, xs, by omega, by omega, by go_num, rfl, by rw [HR.out], by rw [HR.out], hA, HX2⟩
            case measure => simp [intOf]; omega
          · have c1' : (y == 34) = false := by rw [beq_eq_false_iff_ne]; exact c1
            cases hsp : spaceB y with
            | true =>
              have HR : Hid (run lt (k+1) = ⟨false, false, (run lt k).out⟩) := by
                rw [hy] at c1 hsp; exact run_space hlt hq he c1 hsp
              have hsl := slice_lh T lt.length f k hf hlt
              have hown := hA.own
              have hxl : xs.length + (k - f) ≤ 1048576 := by
                have h1 := congrArg List.length HX.out
                rw [List.length_append, List.length_append, seg_len lt f k hf hk] at h1
                have := run_len lt k hk
                omega
              have hsg : ∀ j u, (cellsOf ((lt.drop f).take (k - f)))[j]? = some u → wr.cell? ((⟨T, f, none⟩ : Addr).add j) = some u := seg_cells (fun j hj => by rw [hA.text hT hTd]; exact HC.out j hj) f k hf hk
              have hbs : B ≤ wr.heap.size := Nat.le_trans hA.base hA.grown.size
              have HSG : Hid (∀ j u, (cellsOf ((lt.drop f).take (k - f)))[j]? = some u → wr.cell? ((⟨T, f, none⟩ : Addr).add j) = some u) := hsg
              clear hy c1 hsg
              go_wp2_with fail
              refine (isSpaceP_any y _).mono ?_
              rintro e w1 ⟨rfl, rfl⟩
              go_wp2_with (at_builtin; refine wpList_append_own_at _ rfl (.tmp 31) (.tmp 35) 23 rfl B 5 i0 (.int .u8 0) 1 1 Try.underlying23 hi hz0 hz1 hz2 rfl (by decide) _ _ _ rfl hown ⟨T, f, none⟩ (k - f) (lt.length - f) (cellsOf ((lt.drop f).take (k - f))) rfl (by rw [cellsOf_length, seg_len lt f k hf hk]; omega) HSG.out (cells_one _) (by unfold maxLen; omega) (by omega) hbs ?_; intro v' w1 hown' hgrow hnil hat)
              have hN := hA.step (seg_len lt f k hf hk) hown' hgrow hnil hat
              clear hown' hgrow hnil hat hown HSG hcell hsl
              go_wp2
              go_roundw
              case rel => exact ⟨k + 1, k + 1, _, by omega, by omega, by go_num, by go_num, by rw [HR.out], by rw [HR.out], hN, by rw [Hid, HR.out, Nat.sub_self, List.take_zero, List.append_nil]; exact HX.out⟩
              case measure => simp [intOf]; omega
            | false =>
              have HR : Hid (run lt (k+1) = ⟨false, false, (run lt k).out ++ [lt.getD k 0]⟩) := by
                rw [hy] at c1 hsp; exact run_plain hlt hq he c1 hsp
              have HX2 : Hid (xs ++ (lt.drop f).take (k + 1 - f) = ld ++ (run lt (k+1)).out) := keep_step hf hlt HX.out (by rw [HR.out])
              clear hy c1
              go_wp2_with fail
              refine (isSpaceP_any y _).mono ?_
              rintro e w1 ⟨rfl, rfl⟩
              go_wp2
              go_roundw
              case rel => exact ⟨k + 1, f, xs, by omega, by omega, by go_num, rfl, by rw [HR.out], by rw [HR.out], hA, HX2⟩
              case measure => simp [intOf]; omega
    · have : k = lt.length := by omega
      subst this
      have hsl := slice_l T lt.length f hf
      have hown := hA.own
      have hxl : xs.length + (lt.length - f) ≤ 1048576 := by
        have h1 := congrArg List.length HX.out
        rw [List.length_append, List.length_append, seg_len lt f lt.length hf hk] at h1
        have := run_len lt lt.length hk
        omega
      have HSG : Hid (∀ j u, (cellsOf (lt.drop f))[j]? = some u → wr.cell? ((tailAt T lt.length f).add j) = some u) := tail_cells (fun j hj => by rw [hA.text hT hTd]; exact HC.out j hj) f hf
      have hbs : B ≤ wr.heap.size := Nat.le_trans hA.base hA.grown.size
      go_wp2_with (at_builtin; refine wpList_append_own_at _ rfl (.tmp 40) (.tmp 43) 23 rfl B 5 i0 (.int .u8 0) 1 1 Try.underlying23 hi hz0 hz1 hz2 rfl (by decide) _ _ _ rfl hown (tailAt T lt.length f) (lt.length - f) (lt.length - f) (cellsOf (lt.drop f)) rfl (by rw [cellsOf_length, List.length_drop]; omega) HSG.out (cells_one _) (by unfold maxLen; omega) (by omega) hbs ?_; intro v' w1 hown' hgrow hnil hat)
      have hN := hA.step (by rw [List.length_drop]) hown' hgrow hnil hat
      clear hown' hgrow hnil hat hown HSG hsl
      have HE : Hid (xs ++ lt.drop f = ld ++ (run lt lt.length).out) := by
        have h1 := HX.out
        rwa [List.take_of_length_le (by rw [List.length_drop]; exact Nat.le_refl _)] at h1
      go_wp2
      go_ret
      exact ⟨_, rfl, by rw [← HE.out]; exact hN⟩

set_option maxRecDepth 100000 in
set_option maxHeartbeats 1000000 in
theorem compact_nil (B : Nat) (W : World) (vd : Value) (ld : List Int) (hS : App B W vd vd ld W) :
    Calls Try.prog 18 #[vd, .slice none 0 0] W fun e w' => ∃ v, e = .returned v ∧ App B W vd v ld w' := by
  rcases hS.own.2 with ⟨rfl, h0⟩ | ⟨g, cap, cur, rfl, hb, hg, hnc, _⟩
  · have hap := append_nil_nil
    go_enter Try.func18, Try.ntmps18
    go_wp2
    refine wp_loop_rounds 1 ?_
    rw [rounds_succ]
    go_wp2
    go_ret
    exact ⟨_, rfl, hS⟩
  · have hap := fun w => append_some_nil w g ld.length cap hnc
    go_enter Try.func18, Try.ntmps18
    go_wp2
    refine wp_loop_rounds 1 ?_
    rw [rounds_succ]
    go_wp2
    go_ret
    exact ⟨_, rfl, hS⟩
end Go.Proofs.Qxb6602195a
