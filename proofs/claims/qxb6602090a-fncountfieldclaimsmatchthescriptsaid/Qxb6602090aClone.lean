/-
  Seat b6602090a: zzCloneScript (10).
-/
import Derived.Test.Qxb6602090aScript
namespace Go.Proofs.Qxb6602090a
open Go.RowKit Go.Maps

theorem info35 : (Try.prog.info? 35).map (fun i => (i.zero, i.size, i.bytes)) = some (some (.agg #[.slice none 0 0, .int .i64 0, .bool false]), 3, 40) := by kernel_rfl
theorem info49 : (Try.prog.info? 49).map (fun i => (i.zero, i.size, i.bytes)) = some (some (.agg #[.string ByteArray.empty, .bool false]), 2, 24) := by kernel_rfl
theorem under22 : Try.prog.underlying 22 = some (.slice 35) := by kernel_rfl
theorem under33 : Try.prog.underlying 33 = some (.slice 49) := by kernel_rfl

/-- A key of the copy: it lies above block b. -/
def KeyC (b : Nat) (w : World) (v : Value) (key : Key) : Prop :=
  ∃ ad cp, v = .slice ad key.length cp ∧ (0 < key.length → ∃ kb, ad = some ⟨kb, 0, none⟩ ∧ b < kb ∧ kb < w.heap.size ∧ StepsAt w kb 0 key)
theorem KeyC.keep {b : Nat} {w w' : World} {v : Value} {key : Key} (h : KeyC b w v key) (hw : Fr (· = b) w w') : KeyC b w' v key := by
  obtain ⟨ad, cp, h1, h2⟩ := h
  refine ⟨ad, cp, h1, fun hl => ?_⟩
  obtain ⟨kb, h3, h4, h5, h6⟩ := h2 hl
  have hb := hw.block kb h5 (by omega)
  refine ⟨kb, h3, h4, Nat.lt_of_lt_of_le h5 hw.size, fun i s hi => ?_⟩
  rw [World.cell?_of_block (w := w) (a := ⟨kb, _, none⟩) hb, World.cell?_of_block (w := w) (a := ⟨kb, _, none⟩) hb]
  exact h6 i s hi

/-- The copy's rows, filled up to k. -/
def Row2 (w : World) (K l : Nat) (key : Key) (k : Nat) : Prop :=
  ∃ arr : Array Value, w.heap[K]? = some (.cells arr 49 (0, 0)) ∧ arr.size = l * 2 ∧ ∀ i s, i < k → key[i]? = some s → arr[i * 2]? = some (.string s.1) ∧ arr[i * 2 + 1]? = some (.bool s.2)
theorem Row2.has {w : World} {K l : Nat} {key : Key} {k : Nat} (h : Row2 w K l key k) {i : Nat} (hi : i < l) : (∃ v, w.cell? ⟨K, i * 2, none⟩ = some v) ∧ (∃ v, w.cell? ⟨K, i * 2 + 1, none⟩ = some v) ∧ w.frozen? ⟨K, i * 2, none⟩ = false ∧ w.frozen? ⟨K, i * 2 + 1, none⟩ = false := by
  obtain ⟨arr, h1, h2, _⟩ := h
  exact ⟨⟨_, by rw [blk_cell h1]; exact Array.getElem?_eq_getElem (by omega)⟩, ⟨_, by rw [blk_cell h1]; exact Array.getElem?_eq_getElem (by omega)⟩, blk_frozen h1, blk_frozen h1⟩
theorem Row2.put {w : World} {K l : Nat} {key : Key} {k : Nat} {s : Step} (h : Row2 w K l key k) (hk : k < l) (hs : key[k]? = some s) : Row2 ((w.setCell ⟨K, k * 2, none⟩ (.string s.1)).setCell ⟨K, k * 2 + 1, none⟩ (.bool s.2)) K l key (k + 1) := by
  obtain ⟨arr, h1, h2, h3⟩ := h
  refine ⟨_, blk_set _ (blk_set _ h1), by rw [Array.size_setIfInBounds, Array.size_setIfInBounds]; exact h2, fun i s' hi hs' => ?_⟩
  rw [Array.getElem?_setIfInBounds, Array.getElem?_setIfInBounds, Array.getElem?_setIfInBounds, Array.getElem?_setIfInBounds, Array.size_setIfInBounds]
  by_cases e : i = k
  · subst e
    rw [hs] at hs'
    injection hs' with hs'
    subst hs'
    rw [if_neg (by omega), if_pos rfl, if_pos (by omega), if_pos rfl, if_pos (by omega)]
    exact ⟨rfl, rfl⟩
  · rw [if_neg (by omega), if_neg (by omega), if_neg (by omega), if_neg (by omega)]
    exact h3 i s' (by omega) hs'
theorem Row2.steps {w : World} {K l : Nat} {key : Key} (h : Row2 w K l key l) (hl : l = key.length) : StepsAt w K 0 key := by
  obtain ⟨arr, h1, _, h3⟩ := h
  intro i s hi
  have := (List.getElem?_eq_some_iff.1 hi).1
  rw [blk_cell h1, blk_cell h1, Nat.zero_add]
  exact h3 i s (by omega) hi
theorem Row2.keep {w w' : World} {K l : Nat} {key : Key} {k : Nat} (h : Row2 w K l key k) (hb : w'.heap[K]? = w.heap[K]?) : Row2 w' K l key k := by
  obtain ⟨arr, h1, h2⟩ := h; exact ⟨arr, hb.trans h1, h2⟩

def Row3 (w : World) (b n : Nat) (S : List Clm) (k : Nat) : Prop :=
  ∃ arr : Array Value, w.heap[b]? = some (.cells arr 35 (0, 0)) ∧ arr.size = n * 3 ∧ ∀ i m, i < k → S[i]? = some m → (∃ kv, arr[i * 3]? = some kv ∧ KeyC b w kv m.key) ∧ arr[i * 3 + 1]? = some (.int .i64 m.place) ∧ arr[i * 3 + 2]? = some (.bool m.deny)
theorem Row3.has {w : World} {b n : Nat} {S : List Clm} {k : Nat} (h : Row3 w b n S k) {i : Nat} (hi : i < n) : (∃ v, w.cell? ⟨b, i * 3, none⟩ = some v) ∧ (∃ v, w.cell? ⟨b, i * 3 + 1, none⟩ = some v) ∧ (∃ v, w.cell? ⟨b, i * 3 + 2, none⟩ = some v) ∧ w.frozen? ⟨b, i * 3, none⟩ = false ∧ w.frozen? ⟨b, i * 3 + 1, none⟩ = false ∧ w.frozen? ⟨b, i * 3 + 2, none⟩ = false := by
  obtain ⟨arr, h1, h2, _⟩ := h
  exact ⟨⟨_, by rw [blk_cell h1]; exact Array.getElem?_eq_getElem (by omega)⟩, ⟨_, by rw [blk_cell h1]; exact Array.getElem?_eq_getElem (by omega)⟩, ⟨_, by rw [blk_cell h1]; exact Array.getElem?_eq_getElem (by omega)⟩, blk_frozen h1, blk_frozen h1, blk_frozen h1⟩
theorem Row3.lt {w : World} {b n : Nat} {S : List Clm} {k : Nat} (h : Row3 w b n S k) : b < w.heap.size := by obtain ⟨arr, h1, _⟩ := h; exact blk_lt h1
theorem Row3.keep {w w' : World} {b n : Nat} {S : List Clm} {k : Nat} (h : Row3 w b n S k) (hw : Fr (fun _ => False) w w') : Row3 w' b n S k := by
  obtain ⟨arr, h1, h2, h3⟩ := h
  refine ⟨arr, (hw.block b (blk_lt h1) (fun f => f)).trans h1, h2, fun i m hi hm => ?_⟩
  obtain ⟨⟨kv, k1, k2⟩, k3⟩ := h3 i m hi hm
  exact ⟨⟨kv, k1, k2.keep (hw.mono (fun _ _ f => f.elim))⟩, k3⟩
theorem Row3.put {w : World} {b n : Nat} {S : List Clm} {k : Nat} {m : Clm} {kv : Value} (h : Row3 w b n S k) (hk : k < n) (hm : S[k]? = some m) (hv : KeyC b w kv m.key) :
    Row3 (((w.setCell ⟨b, k * 3, none⟩ kv).setCell ⟨b, k * 3 + 1, none⟩ (.int .i64 m.place)).setCell ⟨b, k * 3 + 2, none⟩ (.bool m.deny)) b n S (k + 1) := by
  obtain ⟨arr, h1, h2, h3⟩ := h
  have hF : Fr (· = b) w (((w.setCell ⟨b, k * 3, none⟩ kv).setCell ⟨b, k * 3 + 1, none⟩ (.int .i64 m.place)).setCell ⟨b, k * 3 + 2, none⟩ (.bool m.deny)) :=
    ((Fr.setCell w ⟨b, k * 3, none⟩ _).trans (Fr.setCell _ ⟨b, k * 3 + 1, none⟩ _)).trans (Fr.setCell _ ⟨b, k * 3 + 2, none⟩ _)
  refine ⟨_, blk_set _ (blk_set _ (blk_set _ h1)), by rw [Array.size_setIfInBounds, Array.size_setIfInBounds, Array.size_setIfInBounds]; exact h2, fun i m' hi hm' => ?_⟩
  simp only [Array.getElem?_setIfInBounds, Array.size_setIfInBounds]
  by_cases e : i = k
  · subst e
    rw [hm] at hm'
    injection hm' with hm'
    subst hm'
    rw [if_neg (by omega), if_neg (by omega), if_pos rfl, if_pos (by omega), if_neg (by omega), if_pos rfl, if_pos (by omega), if_pos rfl, if_pos (by omega)]
    exact ⟨⟨kv, rfl, hv.keep hF⟩, rfl, rfl⟩
  · rw [if_neg (by omega), if_neg (by omega), if_neg (by omega), if_neg (by omega), if_neg (by omega), if_neg (by omega), if_neg (by omega), if_neg (by omega), if_neg (by omega)]
    obtain ⟨⟨kv', k1, k2⟩, k3⟩ := h3 i m' (by omega) hm'
    exact ⟨⟨kv', k1, k2.keep hF⟩, k3⟩

/-- The copy. -/
def ScrV (w : World) (v : Value) (S : List Clm) : Prop :=
  (v = .slice none 0 0 ∧ S = []) ∨ ∃ b, v = .slice (some ⟨b, 0, none⟩) S.length S.length ∧ Row3 w b S.length S S.length

theorem below_cell {w w' : World} {a : Addr} {v : Value} (hB : Below w.heap.size w w') (h : w.cell? a = some v) : w'.cell? a = some v := by
  rw [World.cell?_of_block (w := w) (hB.block a.block (World.block_lt_of_cell? w _ h))]; exact h

theorem below_less {B B' : Nat} {w w' : World} (h : B ≤ B') (hB : Below B' w w') : Below B w w' := ⟨hB.os, hB.tape, hB.output, hB.size, fun k hk => hB.block k (by omega)⟩

def ClonePost (w : World) (S : List Clm) (r : Ending) (w' : World) : Prop := ∃ v, r = .returned v ∧ ScrV w' v S ∧ Below w.heap.size w w'

def OutRel (w : World) (n : Nat) (S : List Clm) (i : Value) (wr : World) : Prop := ∃ k : Nat, k ≤ n ∧ i = .int .i64 k ∧ Row3 wr w.heap.size n S k ∧ Below w.heap.size w wr
def InRel (W : World) (K l : Nat) (key : Key) (i : Value) (wr : World) : Prop := ∃ k : Nat, k ≤ l ∧ i = .int .i64 k ∧ Row2 wr K l key k ∧ Below W.heap.size W wr

set_option maxRecDepth 100000 in
set_option maxHeartbeats 4000000 in
theorem clone_any (w : World) (v : Value) (S : List Clm) (h : ScrArg w v S) (hbig : S.length ≤ 4096) (hlk : ∀ m ∈ S, m.key.length ≤ 65536) : Calls Try.prog 10 #[v] w fun r w' => ClonePost w S r w' := by
  obtain ⟨ad, cp, rfl, hcp, hS⟩ := h
  cases ad with
  | none =>
    have h0 : S.length = 0 := by
      rcases Nat.eq_zero_or_pos S.length with h | h
      · exact h
      · obtain ⟨a, h1, _⟩ := hS h; cases h1
    have hcp := hcp rfl
    subst hcp
    rw [h0]
    have HP : Hid (ScrV w (.slice none 0 0) S) := .inl ⟨rfl, List.eq_nil_of_length_eq_zero h0⟩
    clear hS hbig hlk h0
    have e22 := fun W => Lib.run_eql_slice_nil (P := Try.prog) W 22 35 none 0 0 0 0 under22
    go_enter Try.func10, Try.ntmps10
    go_wp2
    go_ret
    exact ⟨_, rfl, HP.out, Below.refl _ _⟩
  | some a =>
    clear hcp
    obtain ⟨n, hn'⟩ : ∃ n, n = S.length := ⟨_, rfl⟩
    rw [← hn'] at hS hbig ⊢
    obtain ⟨A, hA, hmk⟩ := make_row 22 35 _ 3 40 n under22 info35 (by omega) (by omega)
    have HS : Hid (0 < n → ∀ i m, S[i]? = some m → (∃ kv, w.cell? (a.add (i * 3)) = some kv ∧ KeyArg w kv m.key) ∧ w.cell? (a.add (i * 3 + 1)) = some (.int .i64 m.place) ∧ w.cell? (a.add (i * 3 + 2)) = some (.bool m.deny)) := by
      intro hh
      obtain ⟨a', h1, h2⟩ := hS hh
      injection h1 with h1; subst h1; exact h2
    have HN : Hid (n = S.length) := hn'
    have HLK : Hid (∀ m ∈ S, m.key.length ≤ 65536) := hlk
    have H0 : Hid (OutRel w n S (.int .i64 0) (w.alloc (.cells A 35))) := ⟨0, by omega, rfl, ⟨A, newHeap w _, hA, fun i m hi => by omega⟩, by go_grown⟩
    clear hS hn' hlk hA
    have e22 := fun W => Lib.run_eql_slice_nil (P := Try.prog) W 22 35 (some a) n cp 0 0 under22
    go_enter Try.func10, Try.ntmps10
    go_wp2
    go_loopw [4] (fun i wr => Hid (OutRel w n S i wr)) (fun i _ => n - (intOf i).toNat)
    case atStart => exact H0
    case round =>
      obtain ⟨k, hk, rfl, hrow, hb⟩ := hrel.out
      clear hrel
      have HB : Hid (Below w.heap.size w wr) := hb
      have HR : Hid (Row3 wr w.heap.size n S k) := hrow
      clear hb hrow
      by_cases h1 : k < n
      · obtain ⟨m, hm⟩ : ∃ m, S[k]? = some m := ⟨_, List.getElem?_eq_getElem (by rw [← HN.out]; exact h1)⟩
        obtain ⟨⟨kv, c0, ad2, cp2, rfl, hcp2, hK⟩, c1, c2⟩ := HS.out (by omega) k m hm
        have HM : Hid (S[k]? = some m) := hm
        have c0 := below_cell HB.out c0
        have c1 : w.cell? ⟨(a.add (k * 3)).block, (a.add (k * 3)).off + 1, none⟩ = some (.int .i64 m.place) := by rw [at_field a (k * 3) 0]; exact c1
        have c2 : w.cell? ⟨(a.add (k * 3)).block, (a.add (k * 3)).off + 2, none⟩ = some (.bool m.deny) := by rw [at_field a (k * 3) 1]; exact c2
        have hi0 : (0 : Int) ≤ (k : Int) := by omega
        have hi1 : (k : Int) < (n : Int) := by omega
        have d1 : decide ((k : Int) < (n : Int)) = true := decide_eq_true hi1
        have h2 := HLK.out m (List.mem_of_getElem? hm)
        clear hm
        cases ad2 with
        | none =>
          have hcp2 := hcp2 rfl
          have hl0 : m.key.length = 0 := by
            rcases Nat.eq_zero_or_pos m.key.length with h | h
            · exact h
            · obtain ⟨a, h1, _⟩ := hK h; cases h1
          subst hcp2
          have HKC : Hid (KeyC w.heap.size wr (.slice none 0 0) m.key) := ⟨none, 0, by rw [hl0], fun hh => by omega⟩
          rw [hl0] at c0
          clear hK hl0 h2
          have e33 := fun W => run_neq_slice_nil_any (P := Try.prog) W 33 49 none 0 0 0 0 under33
          have HR2 := HR
          obtain ⟨⟨v0, g0⟩, ⟨v1, g1⟩, ⟨v2, g2⟩, f0, f1, f2⟩ := HR2.out.has h1
          have r1 := below_cell HB.out c1
          have r2 := below_cell HB.out c2
          clear c1 c2
          go_wp2
          go_region
          all_goals go_wp2
          go_roundw
          case rel =>
            have hp := (HR2.out.put h1 HM.out HKC.out).keep (w' := ((((wr.setCell ⟨w.heap.size, k * 3, none⟩ (.slice none 0 0)).setCell ⟨w.heap.size, k * 3 + 1, none⟩ (.int .i64 m.place)).setCell ⟨w.heap.size, k * 3 + 2, none⟩ (.bool m.deny)).drew)) (Fr.drewN _ _ 1)
            exact ⟨k + 1, by omega, by go_num, hp, below_drewN ((((HB.out).setCell (p := ⟨w.heap.size, k * 3, none⟩) (by simp) _).setCell (p := ⟨w.heap.size, k * 3 + 1, none⟩) (by simp) _).setCell (p := ⟨w.heap.size, k * 3 + 2, none⟩) (by simp) _) 1⟩
          case measure => simp [intOf]; omega
        | some a2 =>
          obtain ⟨w1, hw1⟩ : ∃ w1, w1 = wr := ⟨_, rfl⟩
          subst hw1
          obtain ⟨l, hl⟩ : ∃ l, l = m.key.length := ⟨_, rfl⟩
          rw [← hl] at hK c0 h2
          have HK : Hid (0 < l → ∀ i s, m.key[i]? = some s → w.cell? (a2.add (i * 2)) = some (.string s.1) ∧ w.cell? (a2.add (i * 2 + 1)) = some (.bool s.2)) := by
            intro hh
            obtain ⟨a', h1, h2⟩ := hK hh
            injection h1 with h1; subst h1; exact h2
          have HL : Hid (l = m.key.length) := hl
          clear hK hl hcp2
          have e33 := fun W => run_neq_slice_nil_any (P := Try.prog) W 33 49 (some a2) l cp2 0 0 under33
          obtain ⟨A2, hA2, hmk2⟩ := make_row 33 49 _ 2 24 l under33 info49 (by omega) (by omega)
          have HI0 : Hid (InRel w1 w1.heap.size l m.key (.int .i64 0) (w1.alloc (.cells A2 49))) := ⟨0, by omega, rfl, ⟨A2, newHeap w1 _, hA2, fun i m hi => by omega⟩, by go_grown⟩
          clear hA2
          have HC1 : Hid (w.cell? ⟨(a.add (k * 3)).block, (a.add (k * 3)).off + 1, none⟩ = some (.int .i64 m.place)) := c1
          have HC2 : Hid (w.cell? ⟨(a.add (k * 3)).block, (a.add (k * 3)).off + 2, none⟩ = some (.bool m.deny)) := c2
          clear c1 c2
          have HWB : Hid (w.heap.size < w1.heap.size) := HR.out.lt
          go_wp2
          go_loopw [7] (fun i wr2 => Hid (InRel w1 w1.heap.size l m.key i wr2)) (fun i _ => l - (intOf i).toNat)
          case atStart => exact HI0
          case round =>
            obtain ⟨j, hj, rfl, hrow2, hb2⟩ := hrel.out
            clear hrel
            have HB2 : Hid (Below w1.heap.size w1 wr) := hb2
            have HRo : Hid (Row2 wr w1.heap.size l m.key j) := hrow2
            have HBB : Hid (Below w.heap.size w wr) := HB.out.trans (below_less (Nat.le_of_lt HWB.out) hb2)
            clear hb2 hrow2 c0
            by_cases h3 : j < l
            · obtain ⟨s, hs⟩ : ∃ s, m.key[j]? = some s := ⟨_, List.getElem?_eq_getElem (by rw [← HL.out]; exact h3)⟩
              obtain ⟨k0, k1⟩ := HK.out (by omega) j s hs
              have k0 := below_cell HBB.out k0
              have k1 : wr.cell? ⟨(a2.add (j * 2)).block, (a2.add (j * 2)).off + 1, none⟩ = some (.bool s.2) := below_cell HBB.out (by rw [at_field a2 (j * 2) 0]; exact k1)
              obtain ⟨⟨v0, g0⟩, ⟨v1, g1⟩, f0, f1⟩ := HRo.out.has h3
              have HSs : Hid (m.key[j]? = some s) := hs
              clear hs
              have hj0 : (0 : Int) ≤ (j : Int) := by omega
              have hj1 : (j : Int) < (l : Int) := by omega
              have d3 : decide ((j : Int) < (l : Int)) = true := decide_eq_true hj1
              go_wp2
              go_region
              all_goals go_wp2
              go_roundw
              case rel =>
                have hp := (HRo.out.put h3 HSs.out).keep (w' := (((wr.setCell ⟨w1.heap.size, j * 2, none⟩ (.string s.1)).setCell ⟨w1.heap.size, j * 2 + 1, none⟩ (.bool s.2)).drew)) rfl
                exact ⟨j + 1, by omega, by go_num, hp, below_drewN ((HB2.out.setCell (p := ⟨w1.heap.size, j * 2, none⟩) (by simp) _).setCell (p := ⟨w1.heap.size, j * 2 + 1, none⟩) (by simp) _) 1⟩
              case measure => simp [intOf]; omega
            · have d3 : decide ((j : Int) < (l : Int)) = false := decide_eq_false (by omega)
              have HKC : Hid (KeyC w.heap.size wr (.slice (some ⟨w1.heap.size, 0, none⟩) l l) m.key) := by
                have hjl : j = l := by omega
                have hr := HRo.out
                rw [hjl] at hr
                have hlt : w1.heap.size < wr.heap.size := by obtain ⟨arr, q1, _⟩ := hr; exact blk_lt q1
                exact ⟨_, l, by rw [← HL.out], fun _ => ⟨w1.heap.size, rfl, HWB.out, hlt, hr.steps HL.out⟩⟩
              have HR2 : Hid (Row3 wr w.heap.size n S k) := HR.out.keep (Fr.ofBelow HB2.out)
              obtain ⟨⟨v0, g0⟩, ⟨v1, g1⟩, ⟨v2, g2⟩, f0, f1, f2⟩ := HR2.out.has h1
              have r1 := below_cell HBB.out HC1.out
              have r2 := below_cell HBB.out HC2.out
              go_wp2
              go_region
              all_goals go_wp2
              go_roundw
              case rel =>
                have hp := (HR2.out.put h1 HM.out HKC.out).keep (w' := ((((wr.setCell ⟨w.heap.size, k * 3, none⟩ (.slice (some ⟨w1.heap.size, 0, none⟩) l l)).setCell ⟨w.heap.size, k * 3 + 1, none⟩ (.int .i64 m.place)).setCell ⟨w.heap.size, k * 3 + 2, none⟩ (.bool m.deny)).drew)) (Fr.drewN _ _ 1)
                exact ⟨k + 1, by omega, by go_num, hp, below_drewN ((((HBB.out).setCell (p := ⟨w.heap.size, k * 3, none⟩) (by simp) _).setCell (p := ⟨w.heap.size, k * 3 + 1, none⟩) (by simp) _).setCell (p := ⟨w.heap.size, k * 3 + 2, none⟩) (by simp) _) 1⟩
              case measure => simp [intOf]; omega
      · have d1 : decide ((k : Int) < (n : Int)) = false := decide_eq_false (by omega)
        have HP : Hid (ScrV wr (.slice (some ⟨w.heap.size, 0, none⟩) n n) S) := by
          have hkn : k = n := by omega
          refine .inr ⟨w.heap.size, by rw [← HN.out], ?_⟩
          rw [← HN.out]
          have := HR.out
          rw [hkn] at this
          exact this
        go_wp2
        go_ret
        exact ⟨_, rfl, HP.out, HB.out⟩
end Go.Proofs.Qxb6602090a
