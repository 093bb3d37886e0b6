/-
  Seat b6602090a: claimants' add (38), join (40); fieldClaims' count (31), around (37); ZZFieldClaims (17).
-/
import Derived.Test.Qxb6602090aRows
import Derived.WalkKit
import Derived.ProofKit
import Derived.OpenShut
import Derived.ShutString
import Derived.Handy
import Derived.PlainAid
import Derived.WalkSpells
import Derived.WalkLawsBesides
import Derived.Deep.QuietTactic
import Derived.BigQuiet
namespace Go.Proofs.Qxb6602090a
open Go.RowKit

/-- 'add': the claim at place p is counted in c. -/
def addc (c p : Int) : Int := if c = 0 then p else if c = p then c else -1
def joinc (c p : Int) : Int := if p = 0 then c else addc c p

theorem add_any (b o : Nat) (c p : Int) (w : World) (hc : w.cell? ⟨b, o, none⟩ = some (.int .i64 c)) (hf : w.frozen? ⟨b, o, none⟩ = false) :
    Calls Try.prog 38 #[.pointer (some ⟨b, o, none⟩), .int .i64 p] w fun e w' => e = .returned (.tuple #[]) ∧ w' = (if c ≠ 0 ∧ c = p then w else w.setCell ⟨b, o, none⟩ (.int .i64 (addc c p))) := by
  unfold addc
  by_cases h0 : c = 0
  · subst h0
    rw [if_neg (by omega), if_pos rfl]
    go_enter Try.func38, Try.ntmps38
    go_wp2
    go_end0
    exact ⟨rfl, rfl⟩
  · have h0' : (c == 0) = false := by rw [beq_eq_false_iff_ne]; exact h0
    by_cases h1 : c = p
    · rw [if_pos ⟨h0, h1⟩]
      have h1' : (c != p) = false := by simp [h1]
      have H : Hid (c = p) := h1
      clear h1
      go_enter Try.func38, Try.ntmps38
      go_wp2
      go_end0
      exact ⟨rfl, rfl⟩
    · rw [if_neg (fun h => h1 h.2), if_neg h0, if_neg h1]
      have h1' : (c != p) = true := by rw [bne_iff_ne]; exact h1
      go_enter Try.func38, Try.ntmps38
      go_wp2
      go_end0
      exact ⟨rfl, rfl⟩

/-- w' is w but for the blocks that F names, and new ones. -/
structure Fr (F : Nat → Prop) (w w' : World) : Prop where
  os : w'.os = w.os
  tape : w'.tape = w.tape
  output : w'.output = w.output
  size : w.heap.size ≤ w'.heap.size
  block : ∀ k, k < w.heap.size → ¬ F k → w'.heap[k]? = w.heap[k]?

theorem Fr.refl (F : Nat → Prop) (w : World) : Fr F w w := ⟨rfl, rfl, rfl, Nat.le_refl _, fun _ _ _ => rfl⟩
theorem Fr.trans {F : Nat → Prop} {a b c : World} (h : Fr F a b) (k : Fr F b c) : Fr F a c :=
  ⟨k.os.trans h.os, k.tape.trans h.tape, k.output.trans h.output, Nat.le_trans h.size k.size, fun i hi hn => (k.block i (Nat.lt_of_lt_of_le hi h.size) hn).trans (h.block i hi hn)⟩
theorem Fr.mono {F G : Nat → Prop} {a b : World} (h : Fr F a b) (hG : ∀ k, k < a.heap.size → F k → G k) : Fr G a b :=
  ⟨h.os, h.tape, h.output, h.size, fun i hi hn => h.block i hi (fun hf => hn (hG i hi hf))⟩
theorem Fr.ofBelow {F : Nat → Prop} {a b : World} (h : Below a.heap.size a b) : Fr F a b := ⟨h.os, h.tape, h.output, h.size, fun k hk _ => h.block k hk⟩
theorem Fr.alloc (F : Nat → Prop) (w : World) (o : Obj) : Fr F w (w.alloc o) := ⟨rfl, rfl, rfl, by simp, fun k hk _ => Below.heap_alloc w o k hk⟩
theorem Fr.drewN (F : Nat → Prop) (w : World) (n : Nat) : Fr F w (w.drewN n) := ⟨rfl, rfl, rfl, Nat.le_refl _, fun _ _ _ => rfl⟩
theorem Fr.setCell (w : World) (a : Addr) (v : Value) : Fr (· = a.block) w (w.setCell a v) :=
  ⟨rfl, rfl, rfl, by simp [World.setCell], fun k _ hk => Below.heap_setCell _ _ _ _ hk⟩
theorem Fr.below {F : Nat → Prop} {B : Nat} {a b : World} (h : Fr F a b) (hB : B ≤ a.heap.size) (hF : ∀ k, k < B → ¬ F k) : Below B a b :=
  ⟨h.os, h.tape, h.output, h.size, fun k hk => h.block k (by omega) (hF k hk)⟩
/-- Two steps, the second of which may also turn what the first has made. -/
theorem Fr.andThen {F G : Nat → Prop} {a b c : World} (h : Fr F a b) (k : Fr G b c) (hG : ∀ i, i < a.heap.size → G i → F i) : Fr F a c :=
  ⟨k.os.trans h.os, k.tape.trans h.tape, k.output.trans h.output, Nat.le_trans h.size k.size, fun i hi hn => (k.block i (Nat.lt_of_lt_of_le hi h.size) (fun hg => hn (hG i hi hg))).trans (h.block i hi hn)⟩

theorem blk_lt {w : World} {b : Nat} {o : Obj} (h : w.heap[b]? = some o) : b < w.heap.size := (Array.getElem?_eq_some_iff.1 h).1
theorem blk_cell {w : World} {b o : Nat} {arr : Array Value} {t : TypeId} (h : w.heap[b]? = some (.cells arr t (0, 0))) : w.cell? ⟨b, o, none⟩ = arr[o]? := by
  simp [World.cell?, h]
theorem blk_frozen {w : World} {b o : Nat} {arr : Array Value} {t : TypeId} (h : w.heap[b]? = some (.cells arr t (0, 0))) : w.frozen? ⟨b, o, none⟩ = false := by
  simp [World.frozen?, h]
theorem blk_set {w : World} {b o : Nat} {arr : Array Value} {t : TypeId} (v : Value) (h : w.heap[b]? = some (.cells arr t (0, 0))) : (w.setCell ⟨b, o, none⟩ v).heap[b]? = some (.cells (arr.setIfInBounds o v) t (0, 0)) := by
  simp [World.setCell, Array.getElem?_modify, h]

theorem add_blk (b o : Nat) (arr : Array Value) (t : TypeId) (c p : Int) (w : World) (hb : w.heap[b]? = some (.cells arr t (0, 0))) (hc : arr[o]? = some (.int .i64 c)) :
    Calls Try.prog 38 #[.pointer (some ⟨b, o, none⟩), .int .i64 p] w fun e w' => e = .returned (.tuple #[]) ∧ w'.heap[b]? = some (.cells (arr.setIfInBounds o (.int .i64 (addc c p))) t (0, 0)) ∧ w'.heap.size = w.heap.size ∧ Fr (· = b) w w' := by
  refine (add_any b o c p w (by rw [blk_cell hb, hc]) (blk_frozen hb)).mono ?_
  rintro e w' ⟨rfl, rfl⟩
  by_cases h : c ≠ 0 ∧ c = p
  · rw [if_pos h]
    refine ⟨rfl, ?_, rfl, Fr.refl _ _⟩
    have e1 : addc c p = c := by unfold addc; rw [if_neg h.1, if_pos h.2]
    rw [e1, hb]
    have e2 : arr.setIfInBounds o (.int .i64 c) = arr := by
      apply Array.ext_getElem?
      intro j
      rw [Array.getElem?_setIfInBounds]
      by_cases hj : o = j
      · subst hj
        have := (Array.getElem?_eq_some_iff.1 hc).1
        rw [if_pos rfl, if_pos this, hc]
      · rw [if_neg hj]
    rw [e2]
  · rw [if_neg h]
    exact ⟨rfl, blk_set _ hb, by simp [World.setCell], Fr.setCell w ⟨b, o, none⟩ _⟩

theorem join_blk (b o : Nat) (arr : Array Value) (t : TypeId) (c p : Int) (w : World) (hb : w.heap[b]? = some (.cells arr t (0, 0))) (hc : arr[o]? = some (.int .i64 c)) :
    Calls Try.prog 40 #[.pointer (some ⟨b, o, none⟩), .int .i64 p] w fun e w' => e = .returned (.tuple #[]) ∧ w'.heap[b]? = some (.cells (arr.setIfInBounds o (.int .i64 (joinc c p))) t (0, 0)) ∧ w'.heap.size = w.heap.size ∧ Fr (· = b) w w' := by
  unfold joinc
  by_cases h : p = 0
  · subst h
    rw [if_pos rfl]
    go_enter Try.func40, Try.ntmps40
    go_wp2
    go_end0
    refine ⟨rfl, ?_, rfl, Fr.refl _ _⟩
    rw [hb]
    congr 2
    apply Array.ext_getElem?
    intro j
    rw [Array.getElem?_setIfInBounds]
    by_cases hj : o = j
    · subst hj
      have := (Array.getElem?_eq_some_iff.1 hc).1
      rw [if_pos rfl, if_pos this, hc]
    · rw [if_neg hj]
  · rw [if_neg h]
    have h' : (p != 0) = true := by rw [bne_iff_ne]; exact h
    have H := add_blk b o arr t c p w hb hc
    have HH : Hid (Calls Try.prog 38 #[.pointer (some ⟨b, o, none⟩), .int .i64 p] w fun e w' => e = .returned (.tuple #[]) ∧ w'.heap[b]? = some (.cells (arr.setIfInBounds o (.int .i64 (addc c p))) t (0, 0)) ∧ w'.heap.size = w.heap.size ∧ Fr (· = b) w w') := H
    clear H hb hc
    go_enter Try.func40, Try.ntmps40
    go_wp2_with fail
    refine HH.out.mono ?_
    rintro e w1 ⟨rfl, h1⟩
    go_wp2_with fail
    go_end0
    exact ⟨rfl, h1⟩

/-- The four claimants of a node. -/
structure Cl where
  ch : Int
  de : Int
  cw : Int
  dw : Int
/-- What 'count' makes of them. -/
def Cl.count (c : Cl) (p : Int) (deny within : Bool) : Cl :=
  if within then ⟨c.ch, c.de, addc c.cw p, if deny then addc c.dw p else c.dw⟩
  else ⟨addc c.ch p, if deny then addc c.de p else c.de, c.cw, c.dw⟩
/-- What 'around' makes of them. -/
def Cl.around (c : Cl) : Cl := ⟨0, 0, joinc (joinc 0 c.ch) c.cw, joinc (joinc 0 c.de) c.dw⟩

/-- A node's cells. -/
def nodeArr (e a m ch : Value) (c : Cl) : Array Value := #[e, a, m, ch, .int .i64 c.ch, .int .i64 c.de, .int .i64 c.cw, .int .i64 c.dw]

set_option maxRecDepth 100000 in
set_option maxHeartbeats 1000000 in
theorem count_blk (b : Nat) (e a m ch : Value) (c : Cl) (p : Int) (deny within : Bool) (w : World) (hb : w.heap[b]? = some (.cells (nodeArr e a m ch c) 57 (0, 0))) :
    Calls Try.prog 31 #[.pointer (some ⟨b, 4, none⟩), .int .i64 p, .bool deny, .bool within] w fun r w' => r = .returned (.tuple #[]) ∧ w'.heap[b]? = some (.cells (nodeArr e a m ch (c.count p deny within)) 57 (0, 0)) ∧ w'.heap.size = w.heap.size ∧ Fr (· = b) w w' := by
  have HB : Hid (w.heap[b]? = some (.cells (nodeArr e a m ch c) 57 (0, 0))) := hb
  clear hb
  cases within with
  | false =>
    cases deny with
    | false =>
      go_enter Try.func31, Try.ntmps31
      go_wp2
      go_quiet (fail)
      go_wp2_with fail
      refine (add_blk b 4 (nodeArr e a m ch c) 57 c.ch p _ (by exact HB.out) rfl).mono ?_
      rintro e w1 ⟨rfl, hb1, hs1, hf1⟩
      have HB1 : Hid (w1.heap[b]? = some (.cells (nodeArr e a m ch ⟨addc c.ch p, c.de, c.cw, c.dw⟩) 57 (0, 0))) := hb1
      clear hb1
      go_wp2_with fail
      go_end0
      exact ⟨rfl, HB1.out, hs1, (Fr.drewN _ w _).trans hf1⟩
    | true =>
      go_enter Try.func31, Try.ntmps31
      go_wp2
      go_quiet (fail)
      go_wp2_with fail
      refine (add_blk b 4 (nodeArr e a m ch c) 57 c.ch p _ (by exact HB.out) rfl).mono ?_
      rintro e w1 ⟨rfl, hb1, hs1, hf1⟩
      have HB1 : Hid (w1.heap[b]? = some (.cells (nodeArr e a m ch ⟨addc c.ch p, c.de, c.cw, c.dw⟩) 57 (0, 0))) := hb1
      clear hb1
      go_wp2_with fail
      refine (add_blk b 5 _ 57 c.de p _ (by exact HB1.out) rfl).mono ?_
      rintro e w2 ⟨rfl, hb2, hs2, hf2⟩
      have HB2 : Hid (w2.heap[b]? = some (.cells (nodeArr e a m ch ⟨addc c.ch p, addc c.de p, c.cw, c.dw⟩) 57 (0, 0))) := hb2
      clear hb2
      go_wp2_with fail
      go_end0
      exact ⟨rfl, HB2.out, hs2.trans hs1, ((Fr.drewN _ w _).trans hf1).trans hf2⟩
  | true =>
    cases deny with
    | false =>
      go_enter Try.func31, Try.ntmps31
      go_wp2
      go_quiet (fail)
      go_wp2
      go_quiet (fail)
      go_wp2_with fail
      refine (add_blk b 6 (nodeArr e a m ch c) 57 c.cw p _ (by exact HB.out) rfl).mono ?_
      rintro e w1 ⟨rfl, hb1, hs1, hf1⟩
      have HB1 : Hid (w1.heap[b]? = some (.cells (nodeArr e a m ch ⟨c.ch, c.de, addc c.cw p, c.dw⟩) 57 (0, 0))) := hb1
      clear hb1
      go_wp2_with fail
      go_end0
      exact ⟨rfl, HB1.out, hs1, (Fr.drewN _ w _).trans hf1⟩
    | true =>
      go_enter Try.func31, Try.ntmps31
      go_wp2
      go_quiet (fail)
      go_wp2
      go_quiet (fail)
      go_wp2_with fail
      refine (add_blk b 6 (nodeArr e a m ch c) 57 c.cw p _ (by exact HB.out) rfl).mono ?_
      rintro e w1 ⟨rfl, hb1, hs1, hf1⟩
      have HB1 : Hid (w1.heap[b]? = some (.cells (nodeArr e a m ch ⟨c.ch, c.de, addc c.cw p, c.dw⟩) 57 (0, 0))) := hb1
      clear hb1
      go_wp2_with fail
      refine (add_blk b 7 _ 57 c.dw p _ (by exact HB1.out) rfl).mono ?_
      rintro e w2 ⟨rfl, hb2, hs2, hf2⟩
      have HB2 : Hid (w2.heap[b]? = some (.cells (nodeArr e a m ch ⟨c.ch, c.de, addc c.cw p, addc c.dw p⟩) 57 (0, 0))) := hb2
      clear hb2
      go_wp2_with fail
      go_end0
      exact ⟨rfl, HB2.out, hs2.trans hs1, ((Fr.drewN _ w _).trans hf1).trans hf2⟩

theorem four_get {w : World} {b : Nat} {v0 v1 v2 v3 : Value} {t : TypeId} (h : w.heap[b]? = some (.cells #[v0, v1, v2, v3] t (0, 0))) :
    w.cell? ⟨b, 0, none⟩ = some v0 ∧ w.cell? ⟨b, 1, none⟩ = some v1 ∧ w.cell? ⟨b, 2, none⟩ = some v2 ∧ w.cell? ⟨b, 3, none⟩ = some v3 :=
  ⟨blk_cell h, blk_cell h, blk_cell h, blk_cell h⟩
theorem node_get {w : World} {b : Nat} {e a m ch : Value} {c : Cl} (h : w.heap[b]? = some (.cells (nodeArr e a m ch c) 57 (0, 0))) :
    w.cell? ⟨b, 0, none⟩ = some e ∧ w.cell? ⟨b, 1, none⟩ = some a ∧ w.cell? ⟨b, 2, none⟩ = some m ∧ w.cell? ⟨b, 3, none⟩ = some ch ∧
    w.cell? ⟨b, 4, none⟩ = some (.int .i64 c.ch) ∧ w.cell? ⟨b, 5, none⟩ = some (.int .i64 c.de) ∧ w.cell? ⟨b, 6, none⟩ = some (.int .i64 c.cw) ∧ w.cell? ⟨b, 7, none⟩ = some (.int .i64 c.dw) :=
  ⟨blk_cell h, blk_cell h, blk_cell h, blk_cell h, blk_cell h, blk_cell h, blk_cell h, blk_cell h⟩
theorem node_frozen {w : World} {b : Nat} {e a m ch : Value} {c : Cl} (h : w.heap[b]? = some (.cells (nodeArr e a m ch c) 57 (0, 0))) :
    w.frozen? ⟨b, 0, none⟩ = false ∧ w.frozen? ⟨b, 1, none⟩ = false ∧ w.frozen? ⟨b, 2, none⟩ = false ∧ w.frozen? ⟨b, 3, none⟩ = false :=
  ⟨blk_frozen h, blk_frozen h, blk_frozen h, blk_frozen h⟩

theorem newHeap (w : World) (o : Obj) : (w.alloc o).heap[w.heap.size]? = some o := by
  show (w.heap.push o)[w.heap.size]? = _
  simp

/-! ### ZZFieldClaims -/
set_option maxRecDepth 100000 in
set_option maxHeartbeats 1000000 in
theorem fieldClaims_any (b : Nat) (e a m ch : Value) (c : Cl) (w : World) (hb : w.heap[b]? = some (.cells (nodeArr e a m ch c) 57 (0, 0))) :
    Calls Try.prog 17 #[.pointer (some ⟨b, 0, none⟩)] w fun r w' => r = .returned (.tuple #[.int .i64 c.ch, .int .i64 c.de, .int .i64 c.cw, .int .i64 c.dw]) ∧ ∃ n, w' = w.drewN n := by
  obtain ⟨_, _, _, _, g4, g5, g6, g7⟩ := node_get hb
  clear hb
  go_enter Try.func17, Try.ntmps17
  go_wp2
  go_quiet (fail)
  go_wp2
  exact bodyPost_ret (v := .tuple #[.int .i64 c.ch, .int .i64 c.de, .int .i64 c.cw, .int .i64 c.dw]) (by simp [results, Try.results17, go_sem]) rfl ⟨rfl, _, rfl⟩

/-! ### around -/
set_option maxRecDepth 100000 in
set_option maxHeartbeats 1000000 in
theorem around_any (c : Cl) (w : World) :
    Calls Try.prog 37 #[.agg #[.int .i64 c.ch, .int .i64 c.de, .int .i64 c.cw, .int .i64 c.dw]] w fun r w' => r = .returned (.agg #[.int .i64 c.around.ch, .int .i64 c.around.de, .int .i64 c.around.cw, .int .i64 c.around.dw]) ∧ Below w.heap.size w w' := by
  obtain ⟨W3, hW3⟩ : ∃ W3, W3 = (((w.alloc (.cells #[.int .i64 c.ch, .int .i64 c.de, .int .i64 c.cw, .int .i64 c.dw] 55)).alloc (.cells #[.int .i64 0, .int .i64 0, .int .i64 0, .int .i64 0] 55)).alloc (.cells #[.int .i64 0, .int .i64 0, .int .i64 0, .int .i64 0] 55)) := ⟨_, rfl⟩
  have H0 : Hid (W3.heap[w.heap.size]? = some (.cells #[.int .i64 c.ch, .int .i64 c.de, .int .i64 c.cw, .int .i64 c.dw] 55 (0, 0))) := by
    rw [hW3, Hid, Below.heap_alloc _ _ _ (by simp; omega), Below.heap_alloc _ _ _ (by simp)]
    exact newHeap w _
  have H1 : Hid (W3.heap[w.heap.size + 1]? = some (.cells #[.int .i64 0, .int .i64 0, .int .i64 0, .int .i64 0] 55 (0, 0))) := by
    rw [hW3, Hid, Below.heap_alloc _ _ _ (by simp)]
    have := newHeap (w.alloc (.cells #[.int .i64 c.ch, .int .i64 c.de, .int .i64 c.cw, .int .i64 c.dw] 55)) (.cells #[.int .i64 0, .int .i64 0, .int .i64 0, .int .i64 0] 55)
    simpa using this
  have H2 : Hid (W3.heap[w.heap.size + 1 + 1]? = some (.cells #[.int .i64 0, .int .i64 0, .int .i64 0, .int .i64 0] 55 (0, 0))) := by
    rw [hW3, Hid]
    have := newHeap ((w.alloc (.cells #[.int .i64 c.ch, .int .i64 c.de, .int .i64 c.cw, .int .i64 c.dw] 55)).alloc (.cells #[.int .i64 0, .int .i64 0, .int .i64 0, .int .i64 0] 55)) (.cells #[.int .i64 0, .int .i64 0, .int .i64 0, .int .i64 0] 55)
    simpa using this
  have HB : Hid (Below w.heap.size w W3) := by rw [hW3, Hid]; go_grown
  have HZ : Hid (W3.heap.size = w.heap.size + 3) := by rw [hW3, Hid]; simp
  have HW : Hid (W3 = (((w.alloc (.cells #[.int .i64 c.ch, .int .i64 c.de, .int .i64 c.cw, .int .i64 c.dw] 55)).alloc (.cells #[.int .i64 0, .int .i64 0, .int .i64 0, .int .i64 0] 55)).alloc (.cells #[.int .i64 0, .int .i64 0, .int .i64 0, .int .i64 0] 55))) := hW3
  clear hW3
  go_enter Try.func37, Try.ntmps37
  go_wp2_with fail
  rw [← HW.out]
  refine (join_blk (w.heap.size + 1 + 1) 2 #[.int .i64 0, .int .i64 0, .int .i64 0, .int .i64 0] 55 0 c.ch _ (by exact H2.out) rfl).mono ?_
  rintro e w1 ⟨rfl, hb1, hs1, hf1⟩
  have H2a : Hid (w1.heap[w.heap.size + 1 + 1]? = some (.cells #[.int .i64 0, .int .i64 0, .int .i64 (joinc 0 c.ch), .int .i64 0] 55 (0, 0))) := hb1
  have H0a : Hid (w1.heap[w.heap.size]? = some (.cells #[.int .i64 c.ch, .int .i64 c.de, .int .i64 c.cw, .int .i64 c.dw] 55 (0, 0))) := (hf1.block _ (by rw [HZ.out]; omega) (by omega)).trans H0.out
  obtain ⟨g0, g1, g2, g3⟩ := four_get H0a.out
  clear hb1
  go_wp2_with fail
  refine (join_blk (w.heap.size + 1 + 1) 2 _ 55 (joinc 0 c.ch) c.cw _ (by exact H2a.out) rfl).mono ?_
  rintro e w2 ⟨rfl, hb2, hs2, hf2⟩
  have H2b : Hid (w2.heap[w.heap.size + 1 + 1]? = some (.cells #[.int .i64 0, .int .i64 0, .int .i64 c.around.cw, .int .i64 0] 55 (0, 0))) := hb2
  have H0b : Hid (w2.heap[w.heap.size]? = some (.cells #[.int .i64 c.ch, .int .i64 c.de, .int .i64 c.cw, .int .i64 c.dw] 55 (0, 0))) := (hf2.block _ (by rw [hs1, HZ.out]; omega) (by omega)).trans H0a.out
  clear g0 g1 g2 g3 hb2
  obtain ⟨g0, g1, g2, g3⟩ := four_get H0b.out
  go_wp2_with fail
  refine (join_blk (w.heap.size + 1 + 1) 3 _ 55 0 c.de _ (by exact H2b.out) rfl).mono ?_
  rintro e w3 ⟨rfl, hb3, hs3, hf3⟩
  have H2c : Hid (w3.heap[w.heap.size + 1 + 1]? = some (.cells #[.int .i64 0, .int .i64 0, .int .i64 c.around.cw, .int .i64 (joinc 0 c.de)] 55 (0, 0))) := hb3
  have H0c : Hid (w3.heap[w.heap.size]? = some (.cells #[.int .i64 c.ch, .int .i64 c.de, .int .i64 c.cw, .int .i64 c.dw] 55 (0, 0))) := (hf3.block _ (by rw [hs2, hs1, HZ.out]; omega) (by omega)).trans H0b.out
  clear g0 g1 g2 g3 hb3
  obtain ⟨g0, g1, g2, g3⟩ := four_get H0c.out
  go_wp2_with fail
  refine (join_blk (w.heap.size + 1 + 1) 3 _ 55 (joinc 0 c.de) c.dw _ (by exact H2c.out) rfl).mono ?_
  rintro e w4 ⟨rfl, hb4, hs4, hf4⟩
  have H2d : Hid (w4.heap[w.heap.size + 1 + 1]? = some (.cells #[.int .i64 0, .int .i64 0, .int .i64 c.around.cw, .int .i64 c.around.dw] 55 (0, 0))) := hb4
  have H1d : Hid (w4.heap[w.heap.size + 1]? = some (.cells #[.int .i64 0, .int .i64 0, .int .i64 0, .int .i64 0] 55 (0, 0))) :=
    ((hf4.block _ (by rw [hs3, hs2, hs1, HZ.out]; omega) (by omega)).trans ((hf3.block _ (by rw [hs2, hs1, HZ.out]; omega) (by omega)).trans ((hf2.block _ (by rw [hs1, HZ.out]; omega) (by omega)).trans (hf1.block _ (by rw [HZ.out]; omega) (by omega))))).trans H1.out
  have HF : Hid (Below w.heap.size w w4) := by
    have hz := HZ.out
    exact (((HB.out.trans (hf1.below (by omega) (fun k hk => by omega))).trans (hf2.below (by omega) (fun k hk => by omega))).trans (hf3.below (by omega) (fun k hk => by omega))).trans (hf4.below (by omega) (fun k hk => by omega))
  clear g0 g1 g2 g3 hb4 hf1 hf2 hf3 hf4
  obtain ⟨g0, g1, g2, g3⟩ := four_get H2d.out
  obtain ⟨r0, r1, r2, r3⟩ := four_get H1d.out
  obtain ⟨f0, f1, f2, f3⟩ : w4.frozen? ⟨w.heap.size + 1, 0, none⟩ = false ∧ w4.frozen? ⟨w.heap.size + 1, 1, none⟩ = false ∧ w4.frozen? ⟨w.heap.size + 1, 2, none⟩ = false ∧ w4.frozen? ⟨w.heap.size + 1, 3, none⟩ = false := ⟨blk_frozen H1d.out, blk_frozen H1d.out, blk_frozen H1d.out, blk_frozen H1d.out⟩
  go_wp2_with fail
  refine bodyPost_ret (v := .agg #[.int .i64 0, .int .i64 0, .int .i64 c.around.cw, .int .i64 c.around.dw]) (by simp [results, Try.results37, go_sem, r0, r1, r2, r3]) rfl ⟨rfl, ?_⟩
  exact (((HF.out.setCell (p := ⟨w.heap.size + 1, 0, none⟩) (by simp) _).setCell (p := ⟨w.heap.size + 1, 1, none⟩) (by simp) _).setCell (p := ⟨w.heap.size + 1, 2, none⟩) (by simp) _).setCell (p := ⟨w.heap.size + 1, 3, none⟩) (by simp) _
end Go.Proofs.Qxb6602090a
