/-
  Seat b6602090a: maps from names to nodes.
-/
import Derived.Test.Qxb6602090aSteps
import Derived.Maps.Own
import Derived.Maps.OwnOps
import Derived.Maps.Views
import Derived.Maps.OwnSet
namespace Go.Proofs.Qxb6602090a
open Go.RowKit Go.Maps
open Go.WideMaps (keyOf_string_mk)

/-- A pointer to a node's head, as a datum: its block's number; -1 for nil. -/
def codeP (o : Option Nat) : DataW Unit := .lit (.int .i64 (match o with | some b => (b : Int) | none => -1))
def ptrV (o : Option Nat) : Value := .pointer (o.map fun b => ⟨b, 0, none⟩)
def readP (v : Value) : Option (DataW Unit × List MemPlace) :=
  match v with
  | .pointer none => some (codeP none, [])
  | .pointer (some ⟨b, 0, none⟩) => some (codeP (some b), [])
  | _ => none
theorem readP_mk (o : Option Nat) : readP (ptrV o) = some (codeP o, []) := by cases o <;> rfl
theorem codeP_inj {a b : Option Nat} (h : codeP a = codeP b) : a = b := by
  unfold codeP at h
  injection h with h
  injection h with _ h
  cases a with
  | none =>
    cases b with
    | none => rfl
    | some b => simp only at h; omega
  | some a =>
    cases b with
    | none => simp only at h; omega
    | some b => simp only at h; rw [show a = b from by omega]
theorem readP_inv {v : Value} {o : Option Nat} {ps : List MemPlace} (h : readP v = some (codeP o, ps)) : v = ptrV o := by
  unfold readP at h
  split at h
  · injection h with h; injection h with h _
    rw [← codeP_inj h]; rfl
  · injection h with h; injection h with h _
    rw [← codeP_inj h]; rfl
  · cases h

/-- Block m is a map of at most n entries that leads from each name to what g says. -/
def MapIs (w : World) (m n : Nat) (g : ByteArray → Option Nat) : Prop :=
  ∃ D, w.ownsMap Try.prog 9 readP m n D ∧ IsMap D ∧ ∀ s : ByteArray, s.size ≤ maxLen → D.atKey (.string s.data.toList) (codeP none) = codeP (g s)

theorem lawS : Keyed Try.prog 9 := string_keyed Try.underlying9
theorem zero26 (w : World) : (zeroValue 26).run Try.prog w = .ok (.pointer none) w := by kernel_rfl

theorem MapIs.lookup {w : World} {m n : Nat} {g : ByteArray → Option Nat} (h : MapIs w m n g) (s : ByteArray) (hs : s.size ≤ maxLen) :
    (Instr.lookup 52 (.map (some m)) (.string s) false).run Try.prog w = .ok (ptrV (g s)) w := by
  obtain ⟨D, hD, _, hg⟩ := h
  obtain ⟨v, ps, hr, hv⟩ := hD.lookup lawS Try.underlying52 (zero26 w) (readP_mk none) (keyOf_string_mk Try.underlying9 hs)
  rw [hg s hs] at hv
  rw [hr, readP_inv hv]
theorem lookup_nil (w : World) (s : ByteArray) (hs : s.size ≤ maxLen) : (Instr.lookup 52 (.map none) (.string s) false).run Try.prog w = .ok (.pointer none) w :=
  look_nil false lawS Try.underlying52 (zero26 w) (keyOf_string_mk Try.underlying9 hs)
theorem MapIs.update {w : World} {m n : Nat} {g : ByteArray → Option Nat} (h : MapIs w m n g) (hn : n < maxLen) (s : ByteArray) (hs : s.size ≤ maxLen) (x : Option Nat) :
    ∃ w', (Instr.mapUpdate 52 (.map (some m)) (.string s) (ptrV x)).run Try.prog w = .ok () w' ∧ MapIs w' m (n+1) (fun k => if k = s then x else g k) ∧ w.grownBy w' (some m) := by
  obtain ⟨D, hD, hM, hg⟩ := h
  obtain ⟨w', hr, hD', hgr⟩ := hD.update lawS Try.underlying52 hn (keyOf_string_mk Try.underlying9 hs) (readP_mk x)
  refine ⟨w', hr, ⟨_, hD', hM.put _ _, fun k hk => ?_⟩, hgr⟩
  by_cases hks : k = s
  · subst hks
    simp only [if_true]
    rw [atKey_put_same hM (by trivial)]
  · simp only [hks, if_false]
    rw [atKey_put_other (fun e => hks ?_)]
    · exact hg k hk
    · injection e with e
      exact Go.WideShapes.bytes_inj e
theorem MapIs.made (w : World) : MapIs (w.alloc (.map #[] 0)) w.heap.size 0 (fun _ => none) :=
  ⟨_, World.ownsMap_made w _ _ _, isMap_empty, fun _ _ => rfl⟩
theorem MapIs.keep {w w' : World} {m n : Nat} {g : ByteArray → Option Nat} (h : MapIs w m n g) (hb : w'.heap[m]? = w.heap[m]?) : MapIs w' m n g := by
  obtain ⟨D, ⟨es, clock, h1, h2, h3, h4⟩, hM, hg⟩ := h
  exact ⟨D, ⟨es, clock, hb.trans h1, h2, h3, h4⟩, hM, hg⟩
theorem MapIs.mono {w : World} {m n n' : Nat} {g : ByteArray → Option Nat} (h : MapIs w m n g) (hn : n ≤ n') : MapIs w m n' g := by
  obtain ⟨D, hD, hM, hg⟩ := h
  exact ⟨D, hD.mono hn, hM, hg⟩

/-! ### below -/
set_option maxRecDepth 100000 in
set_option maxHeartbeats 1000000 in
theorem below_each (a : Nat) (ed ab mp : Value) (co : Option Nat) (cl : Cl) (s : ByteArray) (w : World) (ha : w.heap[a]? = some (.cells (nodeArr ed ab mp (ptrV co) cl) 57 (0, 0))) :
    Calls Try.prog 27 #[.pointer (some ⟨a, 0, none⟩), .agg #[.string s, .bool true]] w fun e w' => e = .returned (ptrV co) ∧ Below w.heap.size w w' := by
  have hlt := blk_lt ha
  have g3 : ∀ o, (w.alloc o).cell? ⟨a, 3, none⟩ = some (ptrV co) := fun o => by
    rw [World.cell?_of_block (w := w) (a := ⟨a, 3, none⟩) (Below.heap_alloc w o a hlt)]; exact blk_cell ha
  clear ha
  go_enter Try.func27, Try.ntmps27
  go_wp2
  go_ret
  exact ⟨rfl, by go_grown⟩

set_option maxRecDepth 100000 in
set_option maxHeartbeats 1000000 in
theorem below_named (a : Nat) (ed ab ch : Value) (m n : Nat) (g : ByteArray → Option Nat) (cl : Cl) (s : ByteArray) (hs : s.size ≤ maxLen) (w : World) (ha : w.heap[a]? = some (.cells (nodeArr ed ab (.map (some m)) ch cl) 57 (0, 0))) (hm : MapIs w m n g) :
    Calls Try.prog 27 #[.pointer (some ⟨a, 0, none⟩), .agg #[.string s, .bool false]] w fun e w' => e = .returned (ptrV (g s)) ∧ Below w.heap.size w w' := by
  have hlt := blk_lt ha
  have hmlt : m < w.heap.size := by obtain ⟨D, hD, _⟩ := hm; exact hD.lt
  obtain ⟨W, hW⟩ : ∃ W, W = w.alloc (.cells #[.string s, .bool false] 59) := ⟨_, rfl⟩
  have g2 : W.cell? ⟨a, 2, none⟩ = some (.map (some m)) := by
    rw [hW, World.cell?_of_block (w := w) (a := ⟨a, 2, none⟩) (Below.heap_alloc w _ a hlt)]; exact blk_cell ha
  have k0 : W.cell? ⟨w.heap.size, 0, none⟩ = some (.string s) := by rw [hW]; exact blk_cell (newHeap w _)
  have k1 : W.cell? ⟨w.heap.size, 1, none⟩ = some (.bool false) := by rw [hW]; exact blk_cell (newHeap w _)
  have hl : ∀ q, (Instr.lookup 52 (.map (some m)) (.string s) false).run Try.prog (W.drewN q) = .ok (ptrV (g s)) (W.drewN q) := fun q =>
    (hm.keep (w' := W.drewN q) (by rw [show (W.drewN q).heap = W.heap from rfl, hW]; exact Below.heap_alloc w _ m hmlt)).lookup s hs
  have HW : Hid (W = w.alloc (.cells #[.string s, .bool false] 59)) := hW
  have HB : Hid (Below w.heap.size w W) := by rw [hW, Hid]; go_grown
  clear ha hW hm
  go_enter Try.func27, Try.ntmps27
  go_wp2
  rw [← HW.out]
  go_quiet (fail)
  go_wp2
  go_ret
  exact ⟨rfl, below_drewN HB.out _⟩

set_option maxRecDepth 100000 in
set_option maxHeartbeats 1000000 in
theorem below_nil (a : Nat) (ed ab ch : Value) (cl : Cl) (s : ByteArray) (hs : s.size ≤ maxLen) (w : World) (ha : w.heap[a]? = some (.cells (nodeArr ed ab (.map none) ch cl) 57 (0, 0))) :
    Calls Try.prog 27 #[.pointer (some ⟨a, 0, none⟩), .agg #[.string s, .bool false]] w fun e w' => e = .returned (ptrV none) ∧ Below w.heap.size w w' := by
  have hlt := blk_lt ha
  obtain ⟨W, hW⟩ : ∃ W, W = w.alloc (.cells #[.string s, .bool false] 59) := ⟨_, rfl⟩
  have g2 : W.cell? ⟨a, 2, none⟩ = some (.map none) := by
    rw [hW, World.cell?_of_block (w := w) (a := ⟨a, 2, none⟩) (Below.heap_alloc w _ a hlt)]; exact blk_cell ha
  have k0 : W.cell? ⟨w.heap.size, 0, none⟩ = some (.string s) := by rw [hW]; exact blk_cell (newHeap w _)
  have k1 : W.cell? ⟨w.heap.size, 1, none⟩ = some (.bool false) := by rw [hW]; exact blk_cell (newHeap w _)
  have hl : ∀ q, (Instr.lookup 52 (.map none) (.string s) false).run Try.prog (W.drewN q) = .ok (.pointer none) (W.drewN q) := fun q => lookup_nil _ s hs
  have HW : Hid (W = w.alloc (.cells #[.string s, .bool false] 59)) := hW
  have HB : Hid (Below w.heap.size w W) := by rw [hW, Hid]; go_grown
  clear ha hW
  go_enter Try.func27, Try.ntmps27
  go_wp2
  rw [← HW.out]
  go_quiet (fail)
  go_wp2
  go_ret
  exact ⟨rfl, below_drewN HB.out _⟩
end Go.Proofs.Qxb6602090a
