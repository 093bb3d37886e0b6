/-
  Seat b6602195a: zzCloneBytes (10).
-/
import Derived.Test.Qxb6602195aRows
import Derived.WalkKit
import Derived.ProofKit
import Derived.OpenShut
import Derived.ShutString
import Derived.ChangeOld
import Derived.Below
import Derived.Handy
import Derived.WalkSpells
import Derived.WalkLawsBesides
import Derived.Lib.SliceRun
import Derived.Maps.AppendAt
import Derived.Deep.QuietTactic
import Derived.BigQuiet
namespace Go.Proofs.Qxb6602195a
open Go.RowKit

theorem addr_add (b p j : Nat) : (⟨b, p, none⟩ : Addr).add j = ⟨b, p + j, none⟩ := by
  unfold Addr.add
  split
  · rename_i h; subst h; rfl
  · rfl

theorem info5 : (Try.prog.info? 5).map (fun i => (i.zero, i.size, i.bytes)) = some (some (.int .u8 0), 1, 1) := by kernel_rfl

/-- The cells that hold the numbers l. -/
def cellsOf (l : List Int) : List Value := l.map (Value.int .u8)
theorem cellsOf_length (l : List Int) : (cellsOf l).length = l.length := by simp [cellsOf]

theorem make_bytes (n : Nat) (hn : n ≤ 1048576) (w : World) : (Instr.makeSlice 23 (.int .i64 (n : Int)) (.int .i64 (n : Int))).run Try.prog w = .ok (.slice (some ⟨w.heap.size, 0, none⟩) n n) (w.alloc (.cells (madeCells #[.int .u8 0] n) 5)) := by
  obtain ⟨i0, hi, hz0, hz1, hz2⟩ := info_parts info5
  have := run_make (P := Try.prog) w 23 5 i0 (.int .u8 0) Try.underlying23 hi hz0 .i64 .i64 n n (by omega) (by omega) (by rw [hz2]; omega) (by omega)
  rw [hz1] at this
  simpa [Value.cells] using this

/-- What zzCloneBytes hands back: nil for nil; else a new row of just those numbers. -/
theorem clone_nil (w : World) : Calls Try.prog 10 #[.slice none 0 0] w fun e w' => e = .returned (.slice none 0 0) ∧ w' = w := by
  have q23 : ∀ (w : World) (a : Option Addr) (n c n' c' : Nat), (binOp .eql 23 (.slice a n c) (.slice none n' c')).run Try.prog w = .ok (.bool a.isNone) w := fun w a n c n' c' => Lib.run_eql_slice_nil w _ _ a n c n' c' Try.underlying23
  go_enter Try.func10, Try.ntmps10
  go_wp2
  go_ret
  exact ⟨rfl, rfl⟩

theorem arr_eq {arr : Array Value} {zs : List Int} {len : Nat} (hl : len ≤ zs.length) (hs : arr.size = len) (h : ∀ j, j < len → arr[j]? = some (.int .u8 (zs.getD j 0))) : arr = (cellsOf (zs.take len)).toArray := by
  apply Array.ext_getElem?
  intro j
  by_cases hj : j < len
  · rw [h j hj]
    have hz : j < zs.length := by omega
    simp [cellsOf, hj, List.getD_eq_getElem?_getD, hz]
  · rw [Array.getElem?_eq_none (by omega), Array.getElem?_eq_none (by simp [cellsOf]; omega)]

theorem old_cell (w : World) (o : Obj) (b off : Nat) (h : b < w.heap.size) : (w.alloc o).cell? ⟨b, off, none⟩ = w.cell? ⟨b, off, none⟩ := by
  apply World.cell?_of_block
  exact Below.heap_alloc w o b h

set_option maxHeartbeats 400000 in
theorem clone_row (w : World) (b off len cap : Nat) (zs : List Int) (hlc : len ≤ zs.length) (hl : len ≤ 1048576) (hx : b < w.heap.size) (hc : ∀ i, i < zs.length → w.cell? ⟨b, off + i, none⟩ = some (.int .u8 (zs.getD i 0))) :
    Calls Try.prog 10 #[.slice (some ⟨b, off, none⟩) len cap] w fun e w' => e = .returned (.slice (some ⟨w.heap.size, 0, none⟩) len len) ∧ w' = w.alloc (.cells (cellsOf (zs.take len)).toArray 5) := by
  have q23 : ∀ (w : World) (a : Option Addr) (n c n' c' : Nat), (binOp .eql 23 (.slice a n c) (.slice none n' c')).run Try.prog w = .ok (.bool a.isNone) w := fun w a n c n' c' => Lib.run_eql_slice_nil w _ _ a n c n' c' Try.underlying23
  have hmk := make_bytes len hl
  have HC : Hid (∀ i, i < zs.length → w.cell? ⟨b, off + i, none⟩ = some (.int .u8 (zs.getD i 0))) := hc
  clear hc
  go_enter Try.func10, Try.ntmps10
  go_wp2
  clear hmk q23
  go_loopw [4] (fun i wr => ∃ k : Nat, ∃ arr : Array Value, wr = w.alloc (.cells arr 5) ∧ k ≤ len ∧ i = .int .i64 k ∧ arr.size = len ∧ Hid (∀ j, j < k → arr[j]? = some (.int .u8 (zs.getD j 0)))) (fun i _ => len - (intOf i).toNat)
  case atStart => exact ⟨0, _, rfl, by omega, rfl, by simp [size_madeCells], fun j hj => by omega⟩
  case round =>
    obtain ⟨k, arr, rfl, hk, rfl, hs, HA⟩ := hrel
    by_cases hlt : k < len
    · obtain ⟨y, hy⟩ : ∃ y, y = zs.getD k 0 := ⟨_, rfl⟩
      have hcell : (w.alloc (.cells arr 5)).cell? ⟨b, off + k, none⟩ = some (.int .u8 y) := by rw [old_cell w _ b _ hx, HC.out k (by omega), hy]
      obtain ⟨v0, hv0⟩ : ∃ v, arr[k]? = some v := ⟨_, Array.getElem?_eq_getElem (by omega)⟩
      have HY : Hid (y = zs.getD k 0) := hy
      clear hy
      have HS : Hid (arr.size = len) := hs
      clear hs
      go_wp2
      go_roundw
      case rel =>
        refine ⟨k + 1, _, rfl, by omega, by go_num, by simp; exact HS.out, fun j hj => ?_⟩
        rw [Array.getElem?_setIfInBounds]
        by_cases hjk : k = j
        · subst hjk
          rw [if_pos rfl, if_pos (by rw [HS.out]; exact hlt), HY.out]
        · rw [if_neg hjk]
          exact HA.out j (by omega)
      case measure => simp [intOf]; omega
    · have : k = len := by omega
      subst this
      have HE : Hid (arr = (cellsOf (zs.take k)).toArray) := arr_eq hlc hs HA.out
      clear hs
      go_wp2
      go_ret
      exact ⟨rfl, by rw [← HE.out]⟩

set_option maxHeartbeats 400000 in
theorem clone_empty (w : World) (x : Addr) (cap : Nat) :
    Calls Try.prog 10 #[.slice (some x) 0 cap] w fun e w' => e = .returned (.slice (some ⟨w.heap.size, 0, none⟩) 0 0) ∧ w' = w.alloc (.cells #[] 5) := by
  have q23 : ∀ (w : World) (a : Option Addr) (n c n' c' : Nat), (binOp .eql 23 (.slice a n c) (.slice none n' c')).run Try.prog w = .ok (.bool a.isNone) w := fun w a n c n' c' => Lib.run_eql_slice_nil w _ _ a n c n' c' Try.underlying23
  have hmk : ∀ w, (Instr.makeSlice 23 (.int .i64 0) (.int .i64 0)).run Try.prog w = .ok (.slice (some ⟨w.heap.size, 0, none⟩) 0 0) (w.alloc (.cells #[] 5)) := fun w => by
    have := make_bytes 0 (by omega) w
    have hm0 : madeCells #[.int .u8 0] 0 = #[] := Array.eq_empty_of_size_eq_zero (size_madeCells _ _)
    rw [hm0] at this
    exact this
  go_enter Try.func10, Try.ntmps10
  go_wp2
  refine wp_loop_rounds 1 ?_
  rw [rounds_succ]
  go_wp2
  go_ret
  exact ⟨rfl, rfl⟩

/-- The slice v reads, in w, as the numbers l: nil, or the whole of a row. -/
def Txt (w : World) (v : Value) (l : List Int) : Prop :=
  (v = .slice none 0 0 ∧ l = []) ∨ ∃ T, v = .slice (some ⟨T, 0, none⟩) l.length l.length ∧ w.heap[T]? = some (.cells (cellsOf l).toArray 5 (0, 0))

/-- What is told of a slice that came in (the shell's word). -/
def IsRow (k : IntKind) (w : World) (a : Option Addr) (len cap : Nat) (zs : List Int) : Prop :=
  (a = none ∧ len = 0 ∧ cap = 0 ∧ zs = []) ∨
  ∃ x, a = some x ∧ len ≤ cap ∧ cap ≤ maxLen ∧ zs.length = cap ∧ (∀ i, i < zs.length → w.cell? (x.add i) = some (.int k (zs.getD i 0))) ∧ ∀ n ∈ zs, (Lit.int k n).wf = true

theorem IsRow.below {B : Nat} {w w' : World} {a : Option Addr} {len cap : Nat} {zs : List Int} (h : IsRow .u8 w a len cap zs) (hw : Below B w w') (hB : B = w.heap.size) : IsRow .u8 w' a len cap zs := by
  rcases h with h | ⟨x, hx, h1, h2, h3, h4, h5⟩
  · exact .inl h
  · refine .inr ⟨x, hx, h1, h2, h3, fun i hi => ?_, h5⟩
    have hc := h4 i hi
    have hlt := World.block_lt_of_cell? w _ hc
    rw [← hc]
    exact hw.cell (by omega)

theorem clone_any (w : World) (a : Option Addr) (len cap : Nat) (zs : List Int) (h : IsRow .u8 w a len cap zs) (hl : len ≤ 1048576) :
    Calls Try.prog 10 #[.slice a len cap] w fun e w' => ∃ v, e = .returned v ∧ Txt w' v (zs.take len) ∧ (v = .slice none 0 0 ∨ v.ownBlock = some w.heap.size) ∧ Below w.heap.size w w' := by
  rcases h with ⟨rfl, rfl, rfl, rfl⟩ | ⟨x, rfl, h1, h2, h3, h4, h5⟩
  · refine (clone_nil w).mono ?_
    rintro e w' ⟨rfl, rfl⟩
    exact ⟨_, rfl, .inl ⟨rfl, rfl⟩, .inl rfl, Below.refl _ _⟩
  · by_cases hz : zs.length = 0
    · have hl0 : len = 0 := by omega
      subst hl0
      refine (clone_empty w x cap).mono ?_
      rintro e w' ⟨rfl, rfl⟩
      refine ⟨_, rfl, .inr ⟨w.heap.size, by simp, ?_⟩, .inr rfl, by go_grown⟩
      simp only [List.take_zero]
      exact heap_alloc_new w _
    · obtain ⟨b, off, rfl, hc⟩ := ints_at h4 (by omega)
      have hb := World.block_lt_of_cell? w _ (hc 0 (by omega))
      refine (clone_row w b off len cap zs (by omega) hl hb hc).mono ?_
      rintro e w' ⟨rfl, rfl⟩
      refine ⟨_, rfl, .inr ⟨w.heap.size, ?_, heap_alloc_new w _⟩, .inr rfl, by go_grown⟩
      have : (zs.take len).length = len := by rw [List.length_take]; omega
      rw [this]
end Go.Proofs.Qxb6602195a
