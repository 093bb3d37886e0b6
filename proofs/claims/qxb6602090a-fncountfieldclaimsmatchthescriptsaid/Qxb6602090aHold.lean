/-
  Seat b6602090a: hold (28).
-/
import Derived.Test.Qxb6602090aMaps
namespace Go.Proofs.Qxb6602090a
open Go.RowKit Go.Maps

theorem old_cell (w : World) (o : Obj) (b off : Nat) (h : b < w.heap.size) : (w.alloc o).cell? ⟨b, off, none⟩ = w.cell? ⟨b, off, none⟩ :=
  World.cell?_of_block (w := w) (a := ⟨b, off, none⟩) (Below.heap_alloc w o b h)
theorem old_frozen (w : World) (o : Obj) (b off : Nat) (h : b < w.heap.size) : (w.alloc o).frozen? ⟨b, off, none⟩ = w.frozen? ⟨b, off, none⟩ :=
  World.frozen?_of_block (w := w) (a := ⟨b, off, none⟩) (Below.heap_alloc w o b h)
theorem cell_lt {w : World} {b off : Nat} {v : Value} (h : w.cell? ⟨b, off, none⟩ = some v) : b < w.heap.size := World.block_lt_of_cell? w _ h

set_option maxRecDepth 100000 in
set_option maxHeartbeats 1000000 in
theorem hold_each (a x : Nat) (hax : a ≠ x) (ea aa ma ca : Value) (cla : Cl) (K p l cp : Nat) (ax mx cx : Value) (clx : Cl) (s : ByteArray) (w : World)
    (ha : w.heap[a]? = some (.cells (nodeArr ea aa ma ca cla) 57 (0, 0))) (hx : w.heap[x]? = some (.cells (nodeArr (.slice (some ⟨K, p, none⟩) l cp) ax mx cx clx) 57 (0, 0)))
    (hl : 0 < l) (k0 : w.cell? ⟨K, p, none⟩ = some (.string s)) (k1 : w.cell? ⟨K, p + 1, none⟩ = some (.bool true)) :
    Calls Try.prog 28 #[.pointer (some ⟨a, 0, none⟩), .pointer (some ⟨x, 0, none⟩)] w fun e w' => e = .returned (.tuple #[]) ∧
      w'.heap[a]? = some (.cells (nodeArr ea aa ma (ptrV (some x)) cla) 57 (0, 0)) ∧ w'.heap[x]? = some (.cells (nodeArr (.slice (some ⟨K, p, none⟩) l cp) (ptrV (some a)) mx cx clx) 57 (0, 0)) ∧ Fr (fun k => k = a ∨ k = x) w w' := by
  have hal := blk_lt ha
  have hxl := blk_lt hx
  obtain ⟨x0, x1, x2, x3, _⟩ := node_get hx
  obtain ⟨a0, a1, a2, a3, _⟩ := node_get ha
  have hl' : (0 : Int) < (l : Int) := by omega
  obtain ⟨_, _, _, fa3⟩ := node_frozen ha
  obtain ⟨_, fx1, _, _⟩ := node_frozen hx
  have HA : Hid (w.heap[a]? = some (.cells (nodeArr ea aa ma ca cla) 57 (0, 0))) := ha
  have HX : Hid (w.heap[x]? = some (.cells (nodeArr (.slice (some ⟨K, p, none⟩) l cp) ax mx cx clx) 57 (0, 0))) := hx
  clear ha hx
  go_enter Try.func28, Try.ntmps28
  go_wp2
  go_end0
  refine ⟨rfl, ?_, ?_, ?_⟩
  · rw [Below.heap_alloc _ _ _ (by simpa using hal), Below.heap_setCell _ _ _ _ (by exact hax)]
    exact blk_set _ HA.out
  · rw [Below.heap_alloc _ _ _ (by simpa using hxl)]
    have h1 : (w.setCell ⟨a, 3, none⟩ (.pointer (some ⟨x, 0, none⟩))).heap[x]? = some (.cells (nodeArr (.slice (some ⟨K, p, none⟩) l cp) ax mx cx clx) 57 (0, 0)) := by
      rw [Below.heap_setCell _ _ _ _ (by exact fun e => hax e.symm)]; exact HX.out
    exact blk_set _ h1
  · exact (((Fr.setCell w ⟨a, 3, none⟩ _).mono (fun k _ h => .inl h)).trans ((Fr.setCell _ ⟨x, 1, none⟩ _).mono (fun k _ h => .inr h))).trans (Fr.alloc _ _ _)

theorem q52 (w : World) (r : Option Nat) : (binOp .eql 52 (.map r) (.map none)).run Try.prog w = .ok (.bool r.isNone) w := run_eql_map_nil w _ _ _ r Try.underlying52

set_option maxRecDepth 100000 in
set_option maxHeartbeats 1000000 in
theorem hold_new (a x : Nat) (hax : a ≠ x) (ea aa ca : Value) (cla : Cl) (K p l cp : Nat) (ax mx cx : Value) (clx : Cl) (s : ByteArray) (hs : s.size ≤ maxLen) (w : World)
    (ha : w.heap[a]? = some (.cells (nodeArr ea aa (.map none) ca cla) 57 (0, 0))) (hx : w.heap[x]? = some (.cells (nodeArr (.slice (some ⟨K, p, none⟩) l cp) ax mx cx clx) 57 (0, 0)))
    (hl : 0 < l) (k0 : w.cell? ⟨K, p, none⟩ = some (.string s)) (k1 : w.cell? ⟨K, p + 1, none⟩ = some (.bool false)) :
    Calls Try.prog 28 #[.pointer (some ⟨a, 0, none⟩), .pointer (some ⟨x, 0, none⟩)] w fun e w' => e = .returned (.tuple #[]) ∧
      ∃ m, w.heap.size ≤ m ∧ m < w'.heap.size ∧ MapIs w' m 1 (fun k => if k = s then some x else none) ∧
      w'.heap[a]? = some (.cells (nodeArr ea aa (.map (some m)) ca cla) 57 (0, 0)) ∧ w'.heap[x]? = some (.cells (nodeArr (.slice (some ⟨K, p, none⟩) l cp) (ptrV (some a)) mx cx clx) 57 (0, 0)) ∧ Fr (fun k => k = a ∨ k = x) w w' := by
  have hal := blk_lt ha
  have hxl := blk_lt hx
  obtain ⟨x0, x1, x2, x3, _⟩ := node_get hx
  obtain ⟨a0, a1, a2, a3, _⟩ := node_get ha
  have hl' : (0 : Int) < (l : Int) := by omega
  have hq := q52
  have hmm := @run_makeMap Try.prog
  obtain ⟨w1, hup, hM, hg⟩ := (MapIs.made (w.alloc (.cells #[.string s, .bool false] 59))).update (by unfold maxLen; omega) s hs (some x)
  have hsz : (w.alloc (.cells #[.string s, .bool false] 59)).heap.size = w.heap.size + 1 := by simp
  rw [hsz] at hup hM hg
  have hb1 : ∀ k, k < w.heap.size → w1.heap[k]? = w.heap[k]? := fun k hk => by
    rw [hg.block k (by simp; omega) (by simp; omega), Below.heap_alloc _ _ _ (by simp; omega), Below.heap_alloc _ _ _ hk]
  have ca2 : w1.cell? ⟨a, 2, none⟩ = some (.map none) := (World.cell?_of_block (w := w) (a := ⟨a, 2, none⟩) (hb1 a hal)).trans a2
  have cx1 : w1.cell? ⟨x, 1, none⟩ = some ax := (World.cell?_of_block (w := w) (a := ⟨x, 1, none⟩) (hb1 x hxl)).trans x1
  have fa2 : w1.frozen? ⟨a, 2, none⟩ = false := (World.frozen?_of_block (w := w) (a := ⟨a, 2, none⟩) (hb1 a hal)).trans (blk_frozen ha)
  have fx1 : w1.frozen? ⟨x, 1, none⟩ = false := (World.frozen?_of_block (w := w) (a := ⟨x, 1, none⟩) (hb1 x hxl)).trans (blk_frozen hx)
  have hup' : (Instr.mapUpdate 52 (.map (some (w.heap.size + 1))) (.string s) (.pointer (some ⟨x, 0, none⟩))).run Try.prog ((w.alloc (.cells #[.string s, .bool false] 59)).alloc (.map #[] 0)) = .ok () w1 := hup
  have hz1 : w.heap.size + 2 ≤ w1.heap.size := by have := hg.size; simp at this; omega
  have HA : Hid (w1.heap[a]? = some (.cells (nodeArr ea aa (.map none) ca cla) 57 (0, 0))) := (hb1 a hal).trans ha
  have HX : Hid (w1.heap[x]? = some (.cells (nodeArr (.slice (some ⟨K, p, none⟩) l cp) ax mx cx clx) 57 (0, 0))) := (hb1 x hxl).trans hx
  have HF : Hid (Fr (fun k => k = a ∨ k = x) w w1) := ⟨hg.os, hg.tape, hg.output, by omega, fun k hk _ => hb1 k hk⟩
  have HM : Hid (MapIs w1 (w.heap.size + 1) 1 (fun k => if k = s then some x else none)) := hM
  clear ha hx hup hM hg hb1 hsz
  go_enter Try.func28, Try.ntmps28
  go_wp2
  go_end0
  refine ⟨rfl, w.heap.size + 1, by omega, by simp [World.setCell]; omega, ?_, ?_, ?_, ?_⟩
  · refine HM.out.keep ?_
    rw [Below.heap_setCell _ _ _ _ (by exact fun e => by have : w.heap.size + 1 = x := e; omega), Below.heap_setCell _ _ _ _ (by exact fun e => by have : w.heap.size + 1 = a := e; omega)]
  · rw [Below.heap_setCell _ _ _ _ (by exact hax)]
    exact blk_set _ HA.out
  · have h1 : (w1.setCell ⟨a, 2, none⟩ (.map (some (w.heap.size + 1)))).heap[x]? = some (.cells (nodeArr (.slice (some ⟨K, p, none⟩) l cp) ax mx cx clx) 57 (0, 0)) := by
      rw [Below.heap_setCell _ _ _ _ (by exact fun e => hax e.symm)]; exact HX.out
    exact blk_set _ h1
  · exact (HF.out.trans ((Fr.setCell w1 ⟨a, 2, none⟩ _).mono (fun k _ h => .inl h))).trans ((Fr.setCell _ ⟨x, 1, none⟩ _).mono (fun k _ h => .inr h))

set_option maxRecDepth 100000 in
set_option maxHeartbeats 1000000 in
theorem hold_put (a x : Nat) (hax : a ≠ x) (ea aa ca : Value) (m n : Nat) (g : ByteArray → Option Nat) (cla : Cl) (K p l cp : Nat) (ax mx cx : Value) (clx : Cl) (s : ByteArray) (hs : s.size ≤ maxLen) (w : World)
    (ha : w.heap[a]? = some (.cells (nodeArr ea aa (.map (some m)) ca cla) 57 (0, 0))) (hx : w.heap[x]? = some (.cells (nodeArr (.slice (some ⟨K, p, none⟩) l cp) ax mx cx clx) 57 (0, 0)))
    (hm : MapIs w m n g) (hn : n < maxLen)
    (hl : 0 < l) (k0 : w.cell? ⟨K, p, none⟩ = some (.string s)) (k1 : w.cell? ⟨K, p + 1, none⟩ = some (.bool false)) :
    Calls Try.prog 28 #[.pointer (some ⟨a, 0, none⟩), .pointer (some ⟨x, 0, none⟩)] w fun e w' => e = .returned (.tuple #[]) ∧
      MapIs w' m (n + 1) (fun k => if k = s then some x else g k) ∧
      w'.heap[a]? = some (.cells (nodeArr ea aa (.map (some m)) ca cla) 57 (0, 0)) ∧ w'.heap[x]? = some (.cells (nodeArr (.slice (some ⟨K, p, none⟩) l cp) (ptrV (some a)) mx cx clx) 57 (0, 0)) ∧ Fr (fun k => k = m ∨ k = x) w w' := by
  have hal := blk_lt ha
  have hxl := blk_lt hx
  have hml : m < w.heap.size := by obtain ⟨D, hD, _⟩ := hm; exact hD.lt
  have hma : m ≠ a := fun e => by
    obtain ⟨D, ⟨es, ck, h1, _⟩, _⟩ := hm
    rw [e, ha] at h1; cases h1
  have hmx : m ≠ x := fun e => by
    obtain ⟨D, ⟨es, ck, h1, _⟩, _⟩ := hm
    rw [e, hx] at h1; cases h1
  obtain ⟨x0, x1, x2, x3, _⟩ := node_get hx
  obtain ⟨a0, a1, a2, a3, _⟩ := node_get ha
  have hl' : (0 : Int) < (l : Int) := by omega
  have hq := q52
  obtain ⟨W, hW⟩ : ∃ W, W = w.alloc (.cells #[.string s, .bool false] 59) := ⟨_, rfl⟩
  obtain ⟨w1, hup, hM, hg⟩ := (hm.keep (w' := W.drew) (by rw [show W.drew.heap = W.heap from rfl, hW]; exact Below.heap_alloc w _ m hml)).update hn s hs (some x)
  have hsz : W.heap.size = w.heap.size + 1 := by rw [hW]; simp
  have hb1 : ∀ k, k < w.heap.size → k ≠ m → w1.heap[k]? = w.heap[k]? := fun k hk hne => by
    rw [hg.block k (by rw [show W.drew.heap = W.heap from rfl]; omega) (fun e => hne (Option.some.inj e)), show W.drew.heap = W.heap from rfl, hW, Below.heap_alloc _ _ _ hk]
  have cx1 : w1.cell? ⟨x, 1, none⟩ = some ax := (World.cell?_of_block (w := w) (a := ⟨x, 1, none⟩) (hb1 x hxl hmx.symm)).trans x1
  have fx1 : w1.frozen? ⟨x, 1, none⟩ = false := (World.frozen?_of_block (w := w) (a := ⟨x, 1, none⟩) (hb1 x hxl hmx.symm)).trans (blk_frozen hx)
  have hup' : (Instr.mapUpdate 52 (.map (some m)) (.string s) (.pointer (some ⟨x, 0, none⟩))).run Try.prog W.drew = .ok () w1 := hup
  have b2 : W.cell? ⟨a, 2, none⟩ = some (.map (some m)) := by rw [hW, old_cell w _ a 2 hal]; exact a2
  have k0' : W.cell? ⟨w.heap.size, 0, none⟩ = some (.string s) := by rw [hW]; exact blk_cell (newHeap w _)
  have k1' : W.cell? ⟨w.heap.size, 1, none⟩ = some (.bool false) := by rw [hW]; exact blk_cell (newHeap w _)
  have HA : Hid (w1.heap[a]? = some (.cells (nodeArr ea aa (.map (some m)) ca cla) 57 (0, 0))) := (hb1 a hal hma.symm).trans ha
  have HX : Hid (w1.heap[x]? = some (.cells (nodeArr (.slice (some ⟨K, p, none⟩) l cp) ax mx cx clx) 57 (0, 0))) := (hb1 x hxl hmx.symm).trans hx
  have HF : Hid (Fr (fun k => k = m ∨ k = x) w w1) := ⟨hg.os.trans (by rw [hW]; rfl), hg.tape.trans (by rw [hW]; rfl), hg.output.trans (by rw [hW]; rfl), by have := hg.size; rw [show W.drew.heap = W.heap from rfl] at this; omega, fun k hk h => hb1 k hk (fun e => h (.inl e))⟩
  have HM : Hid (MapIs w1 m (n + 1) (fun k => if k = s then some x else g k)) := hM
  have HW : Hid (W = w.alloc (.cells #[.string s, .bool false] 59)) := hW
  clear ha hx hup hM hg hb1 hm hW
  go_enter Try.func28, Try.ntmps28
  go_wp2
  rw [← HW.out]
  go_region
  all_goals (try go_wp2)
  all_goals
    go_end0
    refine ⟨rfl, ?_, ?_, ?_, ?_⟩
    · refine HM.out.keep ?_
      rw [Below.heap_setCell _ _ _ _ (by exact hmx)]
    · rw [Below.heap_setCell _ _ _ _ (by exact hax)]
      exact HA.out
    · exact blk_set _ HX.out
    · exact HF.out.trans ((Fr.setCell _ ⟨x, 1, none⟩ _).mono (fun k _ h => .inr h))

/-- What a node's field 'named' leads to: nil, or a map of at most n entries that is g. -/
def NamedIs (w : World) (mo : Option Nat) (n : Nat) (g : ByteArray → Option Nat) : Prop :=
  match mo with
  | none => ∀ s, g s = none
  | some m => MapIs w m n g
theorem NamedIs.keep {w w' : World} {mo : Option Nat} {n : Nat} {g : ByteArray → Option Nat} (h : NamedIs w mo n g) (hb : ∀ m, mo = some m → w'.heap[m]? = w.heap[m]?) : NamedIs w' mo n g := by
  cases mo with
  | none => exact h
  | some m => exact MapIs.keep h (hb m rfl)
theorem NamedIs.mono {w : World} {mo : Option Nat} {n n' : Nat} {g : ByteArray → Option Nat} (h : NamedIs w mo n g) (hn : n ≤ n') : NamedIs w mo n' g := by
  cases mo with
  | none => exact h
  | some m => exact MapIs.mono h hn
theorem NamedIs.lt {w : World} {m n : Nat} {g : ByteArray → Option Nat} (h : NamedIs w (some m) n g) : m < w.heap.size := by
  obtain ⟨D, hD, _⟩ := h; exact hD.lt
theorem NamedIs.ne {w : World} {m n b : Nat} {g : ByteArray → Option Nat} {arr : Array Value} {t : TypeId} (h : NamedIs w (some m) n g) (hb : w.heap[b]? = some (.cells arr t (0, 0))) : m ≠ b := by
  intro e
  obtain ⟨D, ⟨es, ck, h1, _⟩, _⟩ := h
  rw [e, hb] at h1; cases h1

theorem below_any (a : Nat) (ed ab : Value) (mo co : Option Nat) (n : Nat) (g : ByteArray → Option Nat) (cl : Cl) (s : ByteArray) (e : Bool) (hs : s.size ≤ maxLen) (w : World) (ha : w.heap[a]? = some (.cells (nodeArr ed ab (.map mo) (ptrV co) cl) 57 (0, 0))) (hm : NamedIs w mo n g) :
    Calls Try.prog 27 #[.pointer (some ⟨a, 0, none⟩), .agg #[.string s, .bool e]] w fun r w' => r = .returned (ptrV (if e then co else g s)) ∧ Below w.heap.size w w' := by
  cases e with
  | true => exact below_each a ed ab _ co cl s w ha
  | false =>
    cases mo with
    | none =>
      have := below_nil a ed ab (ptrV co) cl s hs w ha
      rw [show (if false = true then co else g s) = none from by simp [hm s]]
      exact this
    | some m => exact below_named a ed ab (ptrV co) m n g cl s hs w ha hm

/-- The names' map when the child x has been held at step (s, e). -/
def held (g : ByteArray → Option Nat) (s : ByteArray) (e : Bool) (x : Nat) : ByteArray → Option Nat := fun k => if e = false ∧ k = s then some x else g k

theorem hold_any (a x : Nat) (hax : a ≠ x) (ea aa : Value) (mo co : Option Nat) (n : Nat) (g : ByteArray → Option Nat) (cla : Cl) (K p l cp : Nat) (ax mx cx : Value) (clx : Cl) (s : ByteArray) (e : Bool) (hs : s.size ≤ maxLen) (w : World)
    (ha : w.heap[a]? = some (.cells (nodeArr ea aa (.map mo) (ptrV co) cla) 57 (0, 0))) (hx : w.heap[x]? = some (.cells (nodeArr (.slice (some ⟨K, p, none⟩) l cp) ax mx cx clx) 57 (0, 0)))
    (hm : NamedIs w mo n g) (hn : n < 1000000000)
    (hl : 0 < l) (k0 : w.cell? ⟨K, p, none⟩ = some (.string s)) (k1 : w.cell? ⟨K, p + 1, none⟩ = some (.bool e)) :
    Calls Try.prog 28 #[.pointer (some ⟨a, 0, none⟩), .pointer (some ⟨x, 0, none⟩)] w fun r w' => r = .returned (.tuple #[]) ∧
      ∃ mo', NamedIs w' mo' (n + 1) (held g s e x) ∧ (mo' = mo ∨ (mo = none ∧ ∃ m, mo' = some m ∧ w.heap.size ≤ m)) ∧
      w'.heap[a]? = some (.cells (nodeArr ea aa (.map mo') (ptrV (if e then some x else co)) cla) 57 (0, 0)) ∧ w'.heap[x]? = some (.cells (nodeArr (.slice (some ⟨K, p, none⟩) l cp) (ptrV (some a)) mx cx clx) 57 (0, 0)) ∧ Fr (fun k => k = a ∨ k = x ∨ mo = some k) w w' := by
  cases e with
  | true =>
    refine (hold_each a x hax ea aa _ _ cla K p l cp ax mx cx clx s w ha hx hl k0 k1).mono ?_
    rintro r w' ⟨rfl, h1, h2, h3⟩
    refine ⟨rfl, mo, ?_, .inl rfl, h1, h2, h3.mono (fun k _ h => by rcases h with h | h; exact .inl h; exact .inr (.inl h))⟩
    have e1 : held g s true x = g := by funext k; simp [held]
    rw [e1]
    refine (hm.keep (fun m hmo => ?_)).mono (Nat.le_succ n)
    subst hmo
    exact h3.block m hm.lt (fun h => by rcases h with h | h; exact hm.ne ha h; exact hm.ne hx h)
  | false =>
    cases mo with
    | none =>
      refine (hold_new a x hax ea aa _ cla K p l cp ax mx cx clx s hs w ha hx hl k0 k1).mono ?_
      rintro r w' ⟨rfl, m, hm1, hm2, hM, h1, h2, h3⟩
      refine ⟨rfl, some m, ?_, .inr ⟨rfl, m, rfl, hm1⟩, h1, h2, h3.mono (fun k _ h => by rcases h with h | h; exact .inl h; exact .inr (.inl h))⟩
      have e1 : held g s false x = fun k => if k = s then some x else none := by funext k; simp only [held, true_and]; split; rfl; exact hm k
      rw [e1]
      exact MapIs.mono hM (by omega)
    | some m =>
      refine (hold_put a x hax ea aa _ m n g cla K p l cp ax mx cx clx s hs w ha hx hm (by unfold maxLen; omega) hl k0 k1).mono ?_
      rintro r w' ⟨rfl, hM, h1, h2, h3⟩
      refine ⟨rfl, some m, ?_, .inl rfl, h1, h2, h3.mono (fun k _ h => by rcases h with h | h; exact .inr (.inr (by rw [h])); exact .inr (.inl h))⟩
      have e1 : held g s false x = fun k => if k = s then some x else g k := by funext k; simp only [held, true_and]
      rw [e1]
      exact hM
end Go.Proofs.Qxb6602090a
