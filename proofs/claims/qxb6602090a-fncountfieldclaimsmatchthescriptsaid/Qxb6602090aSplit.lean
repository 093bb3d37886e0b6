/-
  Seat b6602090a: split (30).
-/
import Derived.Test.Qxb6602090aHold
import Derived.Deep.RegionHeld3
namespace Go.Proofs.Qxb6602090a
open Go.RowKit Go.Maps

theorem elem51 : Try.prog.elem 51 = 59 := by kernel_rfl
theorem slice_to (K p l cp s : Nat) (hs : s ≤ cp) (w : World) : (Instr.slice 51 (.slice (some ⟨K, p, none⟩) l cp) none (some (.int .i64 (s : Int))) none).run Try.prog w = .ok (.slice (some ⟨K, p, none⟩) s cp) w := by
  have hsz : (sizeOf 59).run Try.prog w = .ok 2 w := by simp [go_sem]
  rw [run_slice_h w 51 (some ⟨K, p, none⟩) l cp (by rw [elem51]; exact Try.underlying51) .i64 s (by omega) (by omega), elem51, hsz]
  simp [sliced, Addr.add]
theorem addr_add2 (b p j : Nat) : (⟨b, p, none⟩ : Addr).add j = ⟨b, p + j, none⟩ := by
  unfold Addr.add
  split
  · rename_i h; subst h; rfl
  · rfl
theorem slice_from (K p l cp s : Nat) (hs : s ≤ l) (hc : s < cp) (w : World) : (Instr.slice 51 (.slice (some ⟨K, p, none⟩) l cp) (some (.int .i64 (s : Int))) none none).run Try.prog w = .ok (.slice (some ⟨K, p + s * 2, none⟩) (l - s) (cp - s)) w := by
  have hsz : (sizeOf 59).run Try.prog w = .ok 2 w := by simp [go_sem]
  rw [run_slice_l w 51 (some ⟨K, p, none⟩) l cp (by rw [elem51]; exact Try.underlying51) .i64 s (by omega) (by omega), elem51, hsz]
  have hne : ¬ cp = s := by omega
  simp [sliced, addr_add2, hne]

theorem keep5 {w W w1 : World} {n : Nat} {e a m ch : Value} {c : Cl} (hB : Below W.heap.size W w1) (hW : W.heap = w.heap) (hn : w.heap[n]? = some (.cells (nodeArr e a m ch c) 57 (0, 0))) :
    w1.heap[n]? = some (.cells (nodeArr e a m ch c) 57 (0, 0)) ∧ w1.cell? ⟨n, 0, none⟩ = some e ∧ w1.cell? ⟨n, 4, none⟩ = some (.int .i64 c.ch) ∧ w1.cell? ⟨n, 5, none⟩ = some (.int .i64 c.de) ∧ w1.cell? ⟨n, 6, none⟩ = some (.int .i64 c.cw) ∧ w1.cell? ⟨n, 7, none⟩ = some (.int .i64 c.dw) := by
  have h1 : w1.heap[n]? = some (.cells (nodeArr e a m ch c) 57 (0, 0)) := by
    rw [hB.block n (by rw [hW]; exact blk_lt hn), hW]; exact hn
  obtain ⟨a0, _, _, _, a4, a5, a6, a7⟩ := node_get h1
  exact ⟨h1, a0, a4, a5, a6, a7⟩

/-- What split leaves: the made node x between P and n. -/
def SplitPost (n P : Nat) (eP aP : Value) (moP coP : Option Nat) (c : Nat) (g : ByteArray → Option Nat) (clP : Cl) (K p l cp s : Nat) (mn cn : Value) (cl : Cl) (s0 s1 : ByteArray) (e0 e1 : Bool) (w w' : World) (x : Nat) : Prop :=
  ∃ moP' moX, w.heap.size ≤ x ∧
      w'.heap[P]? = some (.cells (nodeArr eP aP (.map moP') (ptrV (if e0 then some x else coP)) clP) 57 (0, 0)) ∧ NamedIs w' moP' (c + 1) (held g s0 e0 x) ∧ (moP' = moP ∨ (moP = none ∧ ∃ m, moP' = some m ∧ w.heap.size ≤ m)) ∧
      w'.heap[n]? = some (.cells (nodeArr (.slice (some ⟨K, p + s * 2, none⟩) (l - s) (cp - s)) (ptrV (some x)) mn cn cl) 57 (0, 0)) ∧
      w'.heap[x]? = some (.cells (nodeArr (.slice (some ⟨K, p, none⟩) s cp) (ptrV (some P)) (.map moX) (ptrV (if e1 then some n else none)) cl.around) 57 (0, 0)) ∧ NamedIs w' moX 1 (held (fun _ => none) s1 e1 n) ∧ (∀ m, moX = some m → w.heap.size ≤ m ∧ moP' ≠ some m) ∧
      Fr (fun k => k = P ∨ k = n ∨ moP = some k) w w'

set_option maxRecDepth 100000 in
set_option maxHeartbeats 2000000 in
theorem split_any (n P : Nat) (hnP : n ≠ P) (eP aP : Value) (moP coP : Option Nat) (c : Nat) (g : ByteArray → Option Nat) (clP : Cl) (K p l cp s : Nat) (mn cn : Value) (cl : Cl) (s0 s1 : ByteArray) (e0 e1 : Bool) (w : World)
    (hP : w.heap[P]? = some (.cells (nodeArr eP aP (.map moP) (ptrV coP) clP) 57 (0, 0))) (hm : NamedIs w moP c g) (hc : c < 1000000000)
    (hn : w.heap[n]? = some (.cells (nodeArr (.slice (some ⟨K, p, none⟩) l cp) (ptrV (some P)) mn cn cl) 57 (0, 0))) (hs0 : 0 < s) (hs : s < l) (hl : l ≤ cp)
    (k0 : w.cell? ⟨K, p, none⟩ = some (.string s0)) (k1 : w.cell? ⟨K, p + 1, none⟩ = some (.bool e0)) (j0 : w.cell? ⟨K, p + s * 2, none⟩ = some (.string s1)) (j1 : w.cell? ⟨K, p + s * 2 + 1, none⟩ = some (.bool e1))
    (hz0 : s0.size ≤ maxLen) (hz1 : s1.size ≤ maxLen) (hKP : K ≠ P) (hKn : K ≠ n) (hKm : moP ≠ some K) (hmn : moP ≠ some n) :
    Calls Try.prog 30 #[.pointer (some ⟨n, 0, none⟩), .int .i64 (s : Int)] w fun r w' => ∃ x, r = .returned (ptrV (some x)) ∧ SplitPost n P eP aP moP coP c g clP K p l cp s mn cn cl s0 s1 e0 e1 w w' x := by
  have hnl := blk_lt hn
  have hPl := blk_lt hP
  have hKl := cell_lt k0
  obtain ⟨n0, n1, n2, n3, n4, n5, n6, n7⟩ := node_get hn
  have hst := fun W => slice_to K p l cp s (by omega) W
  have hsf := fun W => slice_from K p l cp s (by omega) (by omega) W
  have hk0 : (0 : Int) ≤ (s : Int) := by omega
  have hk1 : (s : Int) ≤ (cp : Int) := by omega
  have hk2 : (s : Int) ≤ (l : Int) := by omega
  go_enter Try.func30, Try.ntmps30
  go_wp2
  go_region_held3 (fun w' => w'.cell? ⟨n, 0, none⟩ = some (.slice (some ⟨K, p, none⟩) l cp) ∧ w'.cell? ⟨n, 4, none⟩ = some (.int .i64 cl.ch) ∧ w'.cell? ⟨n, 5, none⟩ = some (.int .i64 cl.de) ∧ w'.cell? ⟨n, 6, none⟩ = some (.int .i64 cl.cw) ∧ w'.cell? ⟨n, 7, none⟩ = some (.int .i64 cl.dw)) (go_keep)
    (first | (go_at_call 37; refine (around_any cl _).mono ?_; rintro e w1 ⟨rfl, hB⟩; obtain ⟨hb1, m0, m4, m5, m6, m7⟩ := keep5 hB (by rfl) hn))
  rename_i hHeld
  clear hHeld
  have hB' : Below w.heap.size w w1 := ⟨hB.os, hB.tape, hB.output, hB.size, fun k hk => hB.block k hk⟩
  clear hB m0 m4 m5 m6 m7 n0 n1 n2 n3 n4 n5 n6 n7
  have hs1 := hB'.size
  obtain ⟨W, hW⟩ : ∃ W, W = w1.alloc (.cells #[.slice (some ⟨K, p, none⟩) s cp, .pointer none, .map none, .pointer none, .int .i64 cl.around.ch, .int .i64 cl.around.de, .int .i64 cl.around.cw, .int .i64 cl.around.dw] 57) := ⟨_, rfl⟩
  have hWo : ∀ k, k < w.heap.size → W.heap[k]? = w.heap[k]? := fun k hk => by rw [hW, Below.heap_alloc _ _ _ (by omega), hB'.block k hk]
  have hWx : W.heap[w1.heap.size]? = some (.cells (nodeArr (.slice (some ⟨K, p, none⟩) s cp) (ptrV none) (.map none) (ptrV none) cl.around) 57 (0, 0)) := by rw [hW]; exact newHeap w1 _
  have hWsz : W.heap.size = w1.heap.size + 1 := by rw [hW]; simp
  have hWF : Fr (fun k => k = P ∨ k = n ∨ moP = some k) w W := ⟨by rw [hW]; exact hB'.os, by rw [hW]; exact hB'.tape, by rw [hW]; exact hB'.output, by omega, fun k hk _ => hWo k hk⟩
  have HW : Hid (W = w1.alloc (.cells #[.slice (some ⟨K, p, none⟩) s cp, .pointer none, .map none, .pointer none, .int .i64 cl.around.ch, .int .i64 cl.around.de, .int .i64 cl.around.cw, .int .i64 cl.around.dw] 57)) := hW
  have hPW := (hWo P hPl).trans hP
  have hnW := (hWo n hnl).trans hn
  have kc : ∀ o, W.cell? ⟨K, o, none⟩ = w.cell? ⟨K, o, none⟩ := fun o => World.cell?_of_block (w := w) (a := ⟨K, o, none⟩) (hWo K hKl)
  have hmW := hm.keep (w' := W) (fun m hmo => hWo m (by subst hmo; exact hm.lt))
  have H1 := hold_any P w1.heap.size (by omega) eP aP moP coP c g clP K p s cp (ptrV none) (.map none) (ptrV none) cl.around s0 e0 hz0 W hPW hWx hmW hc hs0 (by rw [kc]; exact k0) (by rw [kc]; exact k1)
  obtain ⟨_, N1, _, _, _⟩ := node_get hnW
  have HH1 := H1
  rw [← hW]
  clear H1 hW
  go_wp2_with fail
  refine HH1.mono ?_
  rintro r w2 ⟨rfl, moP', hN1, hmo, hP2, hx2, hF2⟩
  have hxn : w1.heap.size ≠ n := by omega
  have hb2 : ∀ k, k < w.heap.size → k ≠ P → moP ≠ some k → w2.heap[k]? = w.heap[k]? := fun k hk h1 h2 => by
    rw [hF2.block k (by omega) (fun h => by rcases h with h | h | h; exact h1 h; omega; exact h2 h), hWo k hk]
  have hn2 := (hb2 n hnl hnP hmn).trans hn
  obtain ⟨r0, r1, r2, r3, _⟩ := node_get hn2
  obtain ⟨f0, _, _, _⟩ := node_frozen hn2
  have kc2 : ∀ o, w2.cell? ⟨K, o, none⟩ = w.cell? ⟨K, o, none⟩ := fun o => World.cell?_of_block (w := w) (a := ⟨K, o, none⟩) (hb2 K hKl hKP hKm)
  have hz2 := hF2.size
  -- the third world: n's edge is cut
  obtain ⟨w3, hw3⟩ : ∃ w3, w3 = w2.setCell ⟨n, 0, none⟩ (.slice (some ⟨K, p + s * 2, none⟩) (l - s) (cp - s)) := ⟨_, rfl⟩
  have hn3 : w3.heap[n]? = some (.cells (nodeArr (.slice (some ⟨K, p + s * 2, none⟩) (l - s) (cp - s)) (ptrV (some P)) mn cn cl) 57 (0, 0)) := by rw [hw3]; exact blk_set _ hn2
  have hb3 : ∀ k, k ≠ n → w3.heap[k]? = w2.heap[k]? := fun k hk => by rw [hw3, Below.heap_setCell _ _ _ _ (by exact hk)]
  have hx3 := (hb3 _ hxn).trans hx2
  have hz3 : w3.heap.size = w2.heap.size := by rw [hw3]; simp [World.setCell]
  have kc3 : ∀ o, w3.cell? ⟨K, o, none⟩ = w.cell? ⟨K, o, none⟩ := fun o => (World.cell?_of_block (w := w2) (a := ⟨K, o, none⟩) (hb3 K hKn)).trans (kc2 o)
  have H3 := hold_any w1.heap.size n hxn (.slice (some ⟨K, p, none⟩) s cp) (ptrV (some P)) none none 0 (fun _ => none) cl.around K (p + s * 2) (l - s) (cp - s) (ptrV (some P)) mn cn cl s1 e1 hz1 w3 hx3 hn3 (fun _ => rfl) (by omega) (by omega) (by rw [kc3]; exact j0) (by rw [kc3]; exact j1)
  have HW3 : Hid (w3 = w2.setCell ⟨n, 0, none⟩ (.slice (some ⟨K, p + s * 2, none⟩) (l - s) (cp - s))) := hw3
  clear hw3 HH1
  go_wp2_with fail
  rw [← HW3.out]
  refine H3.mono ?_
  rintro r w4 ⟨rfl, moX, hNX, hmoX, hx4, hn4, hF4⟩
  have hz4 := hF4.size
  have hb4 : ∀ k, k < w2.heap.size → k ≠ w1.heap.size → k ≠ n → w4.heap[k]? = w2.heap[k]? := fun k hk h1 h2 => by
    rw [hF4.block k (by omega) (fun h => by rcases h with h | h | h; exact h1 h; exact h2 h; cases h), hb3 k h2]
  have hP4 : w4.heap[P]? = w2.heap[P]? := hb4 P (by omega) (by omega) (fun e => hnP e.symm)
  have hmlt : ∀ m, moP' = some m → m < w2.heap.size := fun m h => by rw [h] at hN1; exact hN1.lt
  have hNP : NamedIs w4 moP' (c + 1) (held g s0 e0 w1.heap.size) := hN1.keep (fun m h => by
    refine hb4 m (hmlt m h) (fun e => ?_) (fun e => ?_)
    · rw [h] at hN1; exact hN1.ne hx2 e
    · rw [h] at hN1; exact hN1.ne hn2 e)
  go_wp2_with fail
  go_ret
  refine ⟨w1.heap.size, rfl, moP', moX, hs1, hP4.trans hP2, hNP, ?_, hn4, hx4, hNX, ?_, ?_⟩
  · rcases hmo with h | ⟨h, m, h1, h2⟩
    · exact .inl h
    · exact .inr ⟨h, m, h1, by omega⟩
  · intro m hmX
    rcases hmoX with h | ⟨_, m', h1, h2⟩
    · rw [h] at hmX; cases hmX
    · rw [h1] at hmX
      have := Option.some.inj hmX
      subst this
      refine ⟨by omega, fun h => ?_⟩
      have := hmlt _ h
      omega
  · have hf3 : Fr (· = n) w2 w3 := by rw [HW3.out]; exact Fr.setCell w2 ⟨n, 0, none⟩ _
    refine ((hWF.andThen hF2 (fun i hi h => ?_)).andThen hf3 (fun i hi h => .inr (.inl h))).andThen hF4 (fun i hi h => ?_)
    · rcases h with h | h | h
      · exact .inl h
      · omega
      · exact .inr (.inr h)
    · rcases h with h | h | h
      · omega
      · exact .inr (.inl h)
      · cases h
end Go.Proofs.Qxb6602090a
