/-
  Seat b6602195a: zzCompactModel (11).
-/
import Derived.Test.Qxb6602195aClone
import Derived.Test.Qxb6602195aPlain
namespace Go.Proofs.Qxb6602195a
open Go.RowKit

/-- A slice of bytes that is only read: its cells lie below B. -/
def Reads (B : Nat) (w : World) (a : Option Addr) (l : List Int) : Prop :=
  ∀ k, k < l.length → ∃ T, a = some ⟨T, 0, none⟩ ∧ T < B ∧ w.cell? ⟨T, k, none⟩ = some (.int .u8 (l.getD k 0))
theorem Reads.below {B : Nat} {w w' : World} {a : Option Addr} {l : List Int} (h : Reads B w a l) (hB : Below B w w') : Reads B w' a l := fun k hk => by
  obtain ⟨T, h1, h2, h3⟩ := h k hk
  exact ⟨T, h1, h2, by rw [hB.cell (p := ⟨T, k, none⟩) h2]; exact h3⟩

/-- The value v owns, among the call's blocks from B on, the numbers xs; below B nothing has turned since W. -/
def Own (B : Nat) (W : World) (v : Value) (xs : List Int) (w : World) : Prop := w.ownsRow B 5 1 v xs.length (cellsOf xs) ∧ Below B W w ∧ B ≤ w.heap.size

theorem Own.push {B : Nat} {W w w1 : World} {v v' : Value} {xs : List Int} {y : Int} {o : Obj} (h : Own B W v xs w) (ho : w1.ownsRow B 5 1 v' (xs.length + 1) (cellsOf xs ++ [.int .u8 y])) (hg : (w.alloc o).grownBy w1 v.ownBlock) : Own B W v' (xs ++ [y]) w1 := by
  obtain ⟨h1, h2, h3⟩ := h
  refine ⟨?_, (h2.alloc h3 o).grown hg (by simp; omega) (fun k hk => (h1.lt k hk).1), by have := hg.size; simp at this; omega⟩
  have e1 : (xs ++ [y]).length = xs.length + 1 := by simp
  have e2 : cellsOf (xs ++ [y]) = cellsOf xs ++ [.int .u8 y] := by simp [cellsOf]
  rw [e1, e2]; exact ho

theorem one_cell (y : Int) : ∀ u ∈ [Value.int .u8 y], u.oneCell' = true := fun u hu => by simp at hu; subst hu; rfl

theorem make_room (n : Nat) (c : Int) (hc : c = (n : Int)) (hn : n ≤ 2097152) (w : World) : (Instr.makeSlice 23 (.int .i64 0) (.int .i64 c)).run Try.prog w = .ok (.slice (some ⟨w.heap.size, 0, none⟩) 0 n) (w.alloc (.cells (madeCells #[.int .u8 0] n) 5)) := by
  subst hc
  obtain ⟨i0, hi, hz0, hz1, hz2⟩ := info_parts info5
  have := run_make (P := Try.prog) w 23 5 i0 (.int .u8 0) Try.underlying23 hi hz0 .i64 .i64 0 n (by omega) (by omega) (by rw [hz2]; omega) (by omega)
  rw [hz1] at this
  simpa [Value.cells] using this

theorem own_made (W : World) (n : Nat) (hn : n ≤ 2097152) : Own W.heap.size W (.slice (some ⟨W.heap.size, 0, none⟩) 0 n) [] (W.alloc (.cells (madeCells #[.int .u8 0] n) 5)) := by
  refine ⟨?_, by go_grown, by simp⟩
  exact World.ownsRow_made W _ n (Nat.le_refl _) (by unfold maxLen; omega) (by simp [size_madeCells])

theorem take_snoc (l : List Int) (k : Nat) (h : k < l.length) : l.take (k + 1) = l.take k ++ [l.getD k 0] := by
  rw [List.take_succ_eq_append_getElem h, List.getD_eq_getElem?_getD, List.getElem?_eq_getElem h]; rfl

/-- zzIsSpace, isSpace. -/
theorem isSpace_any (y : Int) (w : World) : Calls Try.prog 17 #[.int .u8 y] w fun e w' => e = .returned (.bool (spaceB y)) ∧ w = w' := by
  unfold spaceB
  by_cases h1 : y = 32
  · subst h1
    go_enter Try.func17, Try.ntmps17
    go_wp2
    go_ret
    exact ⟨rfl, rfl⟩
  · have k1 : (y == 32) = false := by rw [beq_eq_false_iff_ne]; exact h1
    by_cases h2 : y = 9
    · subst h2
      go_enter Try.func17, Try.ntmps17
      go_wp2
      go_ret
      exact ⟨rfl, rfl⟩
    · have k2 : (y == 9) = false := by rw [beq_eq_false_iff_ne]; exact h2
      by_cases h3 : y = 10
      · subst h3
        go_enter Try.func17, Try.ntmps17
        go_wp2
        go_ret
        exact ⟨rfl, rfl⟩
      · have k3 : (y == 10) = false := by rw [beq_eq_false_iff_ne]; exact h3
        by_cases h4 : y = 13
        · subst h4
          go_enter Try.func17, Try.ntmps17
          go_wp2
          go_ret
          exact ⟨rfl, rfl⟩
        · have k4 : (y == 13) = false := by rw [beq_eq_false_iff_ne]; exact h4
          go_enter Try.func17, Try.ntmps17
          go_wp2
          go_ret
          exact ⟨by simp [k1, k2, k3, k4], rfl⟩

set_option maxRecDepth 100000 in
set_option maxHeartbeats 4000000 in
theorem model_any (W : World) (ad at' : Option Addr) (ld lt : List Int) (hd : Reads W.heap.size W ad ld) (ht : Reads W.heap.size W at' lt) (nd : ld.length ≤ 524288) (nt : lt.length ≤ 524288) :
    Calls Try.prog 11 #[.slice ad ld.length ld.length, .slice at' lt.length lt.length] W fun e w' => ∃ v, e = .returned v ∧ Own W.heap.size W v (ld ++ (run lt lt.length).out) w' := by
  obtain ⟨i0, hi, hz0, hz1, hz2⟩ := info_parts info5
  have hmk := make_room (ld.length + lt.length) ((ld.length : Int) + (lt.length : Int)) (by omega) (by omega)
  have hM := own_made W (ld.length + lt.length) (by omega)
  go_enter Try.func11, Try.ntmps11
  go_wp2
  clear hmk
  go_loopw [5, 6] (fun v i wr => ∃ k : Nat, k ≤ ld.length ∧ i = .int .i64 k ∧ Own W.heap.size W v (ld.take k) wr) (fun _ i _ => ld.length - (intOf i).toNat)
  case atStart => exact ⟨0, by omega, rfl, hM⟩
  case round =>
    obtain ⟨k, hk, rfl, hO⟩ := hrel
    by_cases hlt : k < ld.length
    · obtain ⟨T, rfl, hT, hc⟩ := (hd.below hO.2.1) k hlt
      obtain ⟨y, hy⟩ : ∃ y, y = ld.getD k 0 := ⟨_, rfl⟩
      rw [← hy] at hc
      have HY : Hid (y = ld.getD k 0) := hy
      clear hy
      have hlen : (ld.take k).length ≤ 524288 := by rw [List.length_take]; omega
      have hown := hO.1
      go_wp2_with (at_builtin; refine wpList_append_own_at _ rfl (.tmp 22) (.tmp 27) 23 rfl W.heap.size 5 i0 (.int .u8 0) 1 1 Try.underlying23 hi hz0 hz1 hz2 rfl (by decide) _ _ _ rfl (hown.alloc _) ⟨wr.heap.size, 0, none⟩ 1 1 [.int .u8 y] rfl rfl (cell_one_new _ _ _) (one_cell _) (by unfold maxLen; omega) (by omega) (by have := hO.2.2; simp; omega) ?_; intro v' w1 hown' hgrow hnil hat)
      have hN := hO.push hown' hgrow
      clear hown' hgrow hnil hat hown hc
      go_wp2
      go_roundw
      case rel => exact ⟨k + 1, by omega, by go_num, by rw [take_snoc ld k hlt, ← HY.out]; exact hN⟩
      case measure => simp [intOf]; omega
    · have : k = ld.length := by omega
      subst this
      rw [List.take_of_length_le (Nat.le_refl _)] at hO
      go_wp2
      go_loopw [5, 7] (fun v i wr => ∃ j : Nat, j ≤ lt.length ∧ i = .int .i64 j ∧ Own W.heap.size W v (ld ++ (run lt j).out) wr ∧ Hid (j < lt.length → (run lt j).q = false ∧ (run lt j).e = false)) (fun _ i _ => lt.length - (intOf i).toNat)
      case atStart => exact ⟨0, by omega, rfl, by rw [run_zero, List.append_nil]; exact hO, fun _ => ⟨rfl, rfl⟩⟩
      case round =>
        clear hO
        obtain ⟨j, hj, rfl, hO, HQ⟩ := hrel
        by_cases hlt : j < lt.length
        · obtain ⟨T, rfl, hT, hc⟩ := (ht.below hO.2.1) j hlt
          obtain ⟨y, hy⟩ : ∃ y, y = lt.getD j 0 := ⟨_, rfl⟩
          rw [← hy] at hc
          have hlen : (ld ++ (run lt j).out).length ≤ 1048576 := by have := run_len lt j (by omega); rw [List.length_append]; omega
          have hown := hO.1
          by_cases c1 : y = 34
          · have HR : Hid (run lt (j+1) = ⟨true, false, (run lt j).out ++ [y]⟩) := by
              rw [hy] at c1 ⊢; exact run_open hlt (HQ.out hlt).1 (HQ.out hlt).2 c1
            have c1' : (y == 34) = true := by rw [beq_iff_eq]; exact c1
            clear c1 hy
            go_wp2_with (at_builtin; refine wpList_append_own_at _ rfl (.tmp 41) (.tmp 43) 23 rfl W.heap.size 5 i0 (.int .u8 0) 1 1 Try.underlying23 hi hz0 hz1 hz2 rfl (by decide) _ _ _ rfl (hown.alloc _) ⟨wr.heap.size, 0, none⟩ 1 1 [.int .u8 y] rfl rfl (cell_one_new _ _ _) (one_cell _) (by unfold maxLen; omega) (by omega) (by have := hO.2.2; simp; omega) ?_; intro v' w1 hown' hgrow hnil hat)
            have hN := hO.push hown' hgrow
            have HN : Own W.heap.size W v' (ld ++ (run lt (j+1)).out) w1 := by rw [HR.out, ← List.append_assoc]; exact hN
            have HS : Hid (j + 1 < lt.length → (run lt (j+1)).q = true ∧ (run lt (j+1)).e = false) := fun _ => by rw [HR.out]; exact ⟨rfl, rfl⟩
            clear hown' hgrow hnil hat hown hc hN hO HR hlen
            go_wp2
            clear c1'
            go_loopw [5, 7] (fun v i wr => ∃ m : Nat, j < m ∧ m ≤ lt.length ∧ i = .int .i64 m ∧ Own W.heap.size W v (ld ++ (run lt m).out) wr ∧ Hid (m < lt.length → (run lt m).q = true ∧ (run lt m).e = false)) (fun _ i _ => lt.length - (intOf i).toNat)
            case atStart => exact ⟨j + 1, by omega, by omega, by go_num, HN, HS⟩
            case round =>
              clear HN HS
              obtain ⟨m, hm0, hm, rfl, hO, HS⟩ := hrel
              by_cases hlm : m < lt.length
              · obtain ⟨T2, hT2, hT3, hc⟩ := (ht.below hO.2.1) m hlm
                obtain rfl : T = T2 := by injection hT2 with h; injection h
                clear hT2 hT3
                obtain ⟨z, hz⟩ : ∃ z, z = lt.getD m 0 := ⟨_, rfl⟩
                rw [← hz] at hc
                have hlen : (ld ++ (run lt m).out).length ≤ 1048576 := by have := run_len lt m (by omega); rw [List.length_append]; omega
                have hown := hO.1
                have HR : Hid (run lt (m+1) = ⟨z != 34, z == 92, (run lt m).out ++ [z]⟩) := by
                  rw [hz]; exact run_in hlm (HS.out hlm).1 (HS.out hlm).2
                have HZ : Hid (z = lt.getD m 0) := hz
                clear hz
                by_cases d1 : z = 92
                · have d1' : (z == 92) = true := by rw [beq_iff_eq]; exact d1
                  have HR2 : Hid (run lt (m+1) = ⟨true, true, (run lt m).out ++ [z]⟩) := by rw [Hid, HR.out]; simp [d1]
                  clear HR d1
                  by_cases hlm2 : m + 1 < lt.length
                  · obtain ⟨T3, hT2, hT3, hc3⟩ := (ht.below hO.2.1) (m+1) hlm2
                    obtain rfl : T = T3 := by injection hT2 with h; injection h
                    clear hT2
                    obtain ⟨x, hx⟩ : ∃ x, x = lt.getD (m+1) 0 := ⟨_, rfl⟩
                    rw [← hx] at hc3
                    have HR3 : Hid (run lt (m+2) = ⟨true, false, (run lt m).out ++ [z] ++ [x]⟩) := by
                      rw [Hid, run_esc hlm2 (by rw [HR2.out]), HR2.out, hx]
                    clear hx
                    go_wp2_with (first | (at_builtin; refine wpList_append_own_at _ rfl (.tmp 55) (.tmp 57) 23 rfl W.heap.size 5 i0 (.int .u8 0) 1 1 Try.underlying23 hi hz0 hz1 hz2 rfl (by decide) _ _ _ rfl (hown.alloc _) ⟨wr.heap.size, 0, none⟩ 1 1 [.int .u8 z] rfl rfl (cell_one_new _ _ _) (one_cell _) (by unfold maxLen; omega) (by omega) (by have := hO.2.2; simp; omega) ?_; intro v' w1 hown' hgrow hnil hat; have hcN : w1.cell? ⟨T, m + 1, none⟩ = some (.int .u8 x) := (World.grownBy.cell (a := ⟨T, m+1, none⟩) hgrow (by rw [old_cell _ _ _ _ (by have := hO.2.2; omega)]; exact hc3) (fun e => by have := (hown.lt T e.symm).1; omega)); have hN := hO.push hown' hgrow; have hlen2 : ((ld ++ (run lt m).out) ++ [z]).length ≤ 1048577 := (by rw [List.length_append]; simp only [List.length_cons, List.length_nil]; omega); have hown2 := hN.1; clear hown' hgrow hnil hat) | (at_builtin; refine wpList_append_own_at _ rfl (.tmp 65) (.tmp 70) 23 rfl W.heap.size 5 i0 (.int .u8 0) 1 1 Try.underlying23 hi hz0 hz1 hz2 rfl (by decide) _ _ _ rfl (hown2.alloc _) ⟨w1.heap.size, 0, none⟩ 1 1 [.int .u8 x] rfl rfl (cell_one_new _ _ _) (one_cell _) (by unfold maxLen; omega) (by omega) (by have := hN.2.2; simp; omega) ?_; intro v'' w2 hown' hgrow hnil hat))
                    have hN2 := hN.push hown' hgrow
                    clear hown' hgrow hnil hat hown hown2 hcN
                    go_wp2
                    go_roundw
                    case rel => exact ⟨m + 2, by omega, by omega, by go_num, by rw [HR3.out]; simpa using hN2, fun _ => by rw [HR3.out]; exact ⟨rfl, rfl⟩⟩
                    case measure => simp [intOf]; omega
                  · go_wp2_with (at_builtin; refine wpList_append_own_at _ rfl (.tmp 55) (.tmp 57) 23 rfl W.heap.size 5 i0 (.int .u8 0) 1 1 Try.underlying23 hi hz0 hz1 hz2 rfl (by decide) _ _ _ rfl (hown.alloc _) ⟨wr.heap.size, 0, none⟩ 1 1 [.int .u8 z] rfl rfl (cell_one_new _ _ _) (one_cell _) (by unfold maxLen; omega) (by omega) (by have := hO.2.2; simp; omega) ?_; intro v' w1 hown' hgrow hnil hat)
                    have hN := hO.push hown' hgrow
                    clear hown' hgrow hnil hat hown hc hO
                    go_wp2
                    go_roundw
                    case rel => exact ⟨m + 1, by omega, by omega, by go_num, by rw [HR2.out]; simpa using hN, fun h => absurd h hlm2⟩
                    case measure => simp [intOf]; omega
                · have d1' : (z == 92) = false := by rw [beq_eq_false_iff_ne]; exact d1
                  by_cases d2 : z = 34
                  · have d2' : (z == 34) = true := by rw [beq_iff_eq]; exact d2
                    have HR2 : Hid (run lt (m+1) = ⟨false, false, (run lt m).out ++ [z]⟩) := by rw [Hid, HR.out]; simp [d2]
                    clear HR d1 d2
                    go_wp2_with (at_builtin; refine wpList_append_own_at _ rfl (.tmp 55) (.tmp 57) 23 rfl W.heap.size 5 i0 (.int .u8 0) 1 1 Try.underlying23 hi hz0 hz1 hz2 rfl (by decide) _ _ _ rfl (hown.alloc _) ⟨wr.heap.size, 0, none⟩ 1 1 [.int .u8 z] rfl rfl (cell_one_new _ _ _) (one_cell _) (by unfold maxLen; omega) (by omega) (by have := hO.2.2; simp; omega) ?_; intro v' w1 hown' hgrow hnil hat)
                    have hN := hO.push hown' hgrow
                    clear hown' hgrow hnil hat hown hc hO
                    go_wp2
                    go_roundw
                    case rel => exact ⟨m + 1, by omega, by go_num, by rw [HR2.out]; simpa using hN, fun _ => by rw [HR2.out]; exact ⟨rfl, rfl⟩⟩
                    case measure => simp [intOf]; omega
                  · have d2' : (z == 34) = false := by rw [beq_eq_false_iff_ne]; exact d2
                    have HR2 : Hid (run lt (m+1) = ⟨true, false, (run lt m).out ++ [z]⟩) := by rw [Hid, HR.out]; simp [d1, d2]
                    clear HR d1 d2
                    go_wp2_with (at_builtin; refine wpList_append_own_at _ rfl (.tmp 55) (.tmp 57) 23 rfl W.heap.size 5 i0 (.int .u8 0) 1 1 Try.underlying23 hi hz0 hz1 hz2 rfl (by decide) _ _ _ rfl (hown.alloc _) ⟨wr.heap.size, 0, none⟩ 1 1 [.int .u8 z] rfl rfl (cell_one_new _ _ _) (one_cell _) (by unfold maxLen; omega) (by omega) (by have := hO.2.2; simp; omega) ?_; intro v' w1 hown' hgrow hnil hat)
                    have hN := hO.push hown' hgrow
                    clear hown' hgrow hnil hat hown hc hO
                    go_wp2
                    go_roundw
                    case rel => exact ⟨m + 1, by omega, by omega, by go_num, by rw [HR2.out]; simpa using hN, fun _ => by rw [HR2.out]; exact ⟨rfl, rfl⟩⟩
                    case measure => simp [intOf]; omega
              · have : m = lt.length := by omega
                subst this
                go_wp2
                go_roundw
                case rel => exact ⟨lt.length, by omega, by go_num, hO, fun h => absurd h (by omega)⟩
                case measure => simp [intOf]; omega
          · have c1' : (y == 34) = false := by rw [beq_eq_false_iff_ne]; exact c1
            cases hsp : spaceB y with
            | true =>
              have HR : Hid (run lt (j+1) = ⟨false, false, (run lt j).out⟩) := by
                rw [hy] at c1 hsp; exact run_space hlt (HQ.out hlt).1 (HQ.out hlt).2 c1 hsp
              clear c1 hy
              go_wp2_with (go_at_call 17; refine (isSpace_any y _).mono ?_; rintro e w1 ⟨rfl, rfl⟩)
              go_roundw
              case rel => exact ⟨j + 1, by omega, by go_num, by rw [HR.out]; exact hO, fun _ => by rw [HR.out]; exact ⟨rfl, rfl⟩⟩
              case measure => simp [intOf]; omega
            | false =>
              have HR : Hid (run lt (j+1) = ⟨false, false, (run lt j).out ++ [y]⟩) := by
                rw [hy] at c1 hsp ⊢; exact run_plain hlt (HQ.out hlt).1 (HQ.out hlt).2 c1 hsp
              clear c1 hy
              go_wp2_with fail
              refine (isSpace_any y _).mono ?_
              rintro e w1 ⟨rfl, rfl⟩
              go_wp2_with (at_builtin; refine wpList_append_own_at _ rfl (.tmp 78) (.tmp 80) 23 rfl W.heap.size 5 i0 (.int .u8 0) 1 1 Try.underlying23 hi hz0 hz1 hz2 rfl (by decide) _ _ _ rfl (hown.alloc _) ⟨wr.heap.size, 0, none⟩ 1 1 [.int .u8 y] rfl rfl (cell_one_new _ _ _) (one_cell _) (by unfold maxLen; omega) (by omega) (by have := hO.2.2; simp; omega) ?_; intro v' w1 hown' hgrow hnil hat)
              have hN := hO.push hown' hgrow
              clear hown' hgrow hnil hat hown hc hO
              go_wp2
              go_roundw
              case rel => exact ⟨j + 1, by omega, by go_num, by rw [HR.out]; simpa using hN, fun _ => by rw [HR.out]; exact ⟨rfl, rfl⟩⟩
              case measure => simp [intOf]; omega
        · have : j = lt.length := by omega
          subst this
          go_wp2
          go_ret
          exact ⟨_, rfl, hO⟩
end Go.Proofs.Qxb6602195a
