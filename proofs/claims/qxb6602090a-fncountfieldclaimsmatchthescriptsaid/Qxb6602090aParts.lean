/-
  Seat b6602090a: ZZNewFieldRoot (11), zzKeyParts (12), ZZCountField (13).
-/
import Derived.Test.Qxb6602090aField
import Derived.Laws.MakeOwn
namespace Go.Proofs.Qxb6602090a
open Go.RowKit Go.Maps

theorem info9 : (Try.prog.info? 9).map (fun i => (i.zero, i.size, i.bytes)) = some (some (.string ByteArray.empty), 1, 16) := by kernel_rfl
theorem info4 : (Try.prog.info? 4).map (fun i => (i.zero, i.size, i.bytes)) = some (some (.bool false), 1, 1) := by kernel_rfl
theorem info59 : (Try.prog.info? 59).map (fun i => (i.zero, i.size, i.bytes)) = some (some (.agg #[.string ByteArray.empty, .bool false]), 2, 24) := by kernel_rfl
theorem under29 : Try.prog.underlying 29 = some (.slice 9) := by kernel_rfl
theorem under30 : Try.prog.underlying 30 = some (.slice 4) := by kernel_rfl
theorem under51 : Try.prog.underlying 51 = some (.slice 59) := by kernel_rfl

/-- 'make' of n elements: a row of so many cells. -/
theorem make_row (t e : TypeId) (z : Value) (size bytes n : Nat) (ht : Try.prog.underlying t = some (.slice e)) (hinfo : (Try.prog.info? e).map (fun i => (i.zero, i.size, i.bytes)) = some (some z, size, bytes)) (hb : bytes * n ≤ 281474976710656) (hn : n ≤ 1000000) :
    ∃ A : Array Value, A.size = n * size ∧ ∀ W : World, (Instr.makeSlice t (.int .i64 (n : Int)) (.int .i64 (n : Int))).run Try.prog W = .ok (.slice (some ⟨W.heap.size, 0, none⟩) n n) (W.alloc (.cells A e)) := by
  obtain ⟨i, hi, hzz⟩ := Option.map_eq_some_iff.1 hinfo
  simp only [Prod.mk.injEq] at hzz
  obtain ⟨hz, hs, hb'⟩ := hzz
  refine ⟨madeCells z.cells (n * size), size_madeCells _ _, fun W => ?_⟩
  have h1 : (i.bytes : Int) * (n : Int) ≤ 281474976710656 := by
    have h : ((i.bytes * n : Nat) : Int) ≤ 281474976710656 := by rw [hb']; omega
    rwa [Int.natCast_mul] at h
  have hr := run_make (P := Try.prog) W t e i z ht hi hz .i64 .i64 n n (by omega) (Int.le_refl _) h1 (by omega)
  simp only [Int.toNat_natCast, hs] at hr
  exact hr

/-- Block b is a row of n cells, of which the first k read as f says. -/
def Fills (w : World) (b : Nat) (t : TypeId) (n : Nat) (f : Nat → Option Value) (k : Nat) : Prop :=
  ∃ arr : Array Value, w.heap[b]? = some (.cells arr t (0, 0)) ∧ arr.size = n ∧ ∀ i, i < k → arr[i]? = f i
theorem Fills.made {w : World} {A : Array Value} {t : TypeId} {n : Nat} (h : A.size = n) (f : Nat → Option Value) : Fills (w.alloc (.cells A t)) w.heap.size t n f 0 := ⟨A, newHeap w _, h, fun i hi => by omega⟩
theorem Fills.keep {w w' : World} {b : Nat} {t : TypeId} {n : Nat} {f : Nat → Option Value} {k : Nat} (h : Fills w b t n f k) (hb : w'.heap[b]? = w.heap[b]?) : Fills w' b t n f k := by
  obtain ⟨arr, h1, h2⟩ := h; exact ⟨arr, hb.trans h1, h2⟩
theorem Fills.lt {w : World} {b : Nat} {t : TypeId} {n : Nat} {f : Nat → Option Value} {k : Nat} (h : Fills w b t n f k) : b < w.heap.size := by obtain ⟨arr, h1, _⟩ := h; exact blk_lt h1
theorem Fills.has {w : World} {b : Nat} {t : TypeId} {n : Nat} {f : Nat → Option Value} {k : Nat} (h : Fills w b t n f k) {i : Nat} (hi : i < n) : (∃ v, w.cell? ⟨b, i, none⟩ = some v) ∧ w.frozen? ⟨b, i, none⟩ = false := by
  obtain ⟨arr, h1, h2, _⟩ := h
  refine ⟨⟨arr[i]'(by omega), ?_⟩, blk_frozen h1⟩
  rw [blk_cell h1]; exact Array.getElem?_eq_getElem _
theorem Fills.get {w : World} {b : Nat} {t : TypeId} {n : Nat} {f : Nat → Option Value} {k : Nat} (h : Fills w b t n f k) {i : Nat} (hi : i < k) : w.cell? ⟨b, i, none⟩ = f i := by
  obtain ⟨arr, h1, _, h3⟩ := h
  rw [blk_cell h1]; exact h3 i hi
theorem Fills.put {w : World} {b : Nat} {t : TypeId} {n : Nat} {f : Nat → Option Value} {k : Nat} (h : Fills w b t n f k) (hk : k < n) {v : Value} (hv : f k = some v) : Fills (w.setCell ⟨b, k, none⟩ v) b t n f (k + 1) := by
  obtain ⟨arr, h1, h2, h3⟩ := h
  refine ⟨_, blk_set v h1, by rw [Array.size_setIfInBounds]; exact h2, fun i hi => ?_⟩
  rw [Array.getElem?_setIfInBounds]
  by_cases e : k = i
  · subst e; rw [if_pos rfl, if_pos (by omega), hv]
  · rw [if_neg e]; exact h3 i (by omega)
theorem Fills.type_ne {w : World} {b b' : Nat} {t t' : TypeId} {n n' : Nat} {f f' : Nat → Option Value} {k k' : Nat} (h : Fills w b t n f k) (h' : Fills w b' t' n' f' k') (ht : t ≠ t') : b ≠ b' := by
  rintro rfl
  obtain ⟨arr, h1, _⟩ := h
  obtain ⟨arr', h2, _⟩ := h'
  rw [h1] at h2
  injection h2 with h2
  injection h2 with _ h2
  exact ht h2

def nameAt (key : Key) (i : Nat) : Option Value := key[i]?.map fun s => .string s.1
def eachAt (key : Key) (i : Nat) : Option Value := key[i]?.map fun s => .bool s.2

/-! ### zzKeyParts -/
def PartsRel (w : World) (l : Nat) (key : Key) (i : Value) (wr : World) : Prop :=
  ∃ k : Nat, k ≤ l ∧ i = .int .i64 k ∧ Fills wr w.heap.size 9 l (nameAt key) k ∧ Fills wr (w.heap.size + 1) 4 l (eachAt key) k ∧ Below w.heap.size w wr

set_option maxRecDepth 100000 in
set_option maxHeartbeats 4000000 in
theorem keyParts_any (w : World) (ad : Option Addr) (l cp : Nat) (key : Key) (hl : l = key.length) (hlen : l ≤ 65536) (hS : 0 < l → ∃ b p, ad = some ⟨b, p, none⟩ ∧ StepsAt w b p key) :
    Calls Try.prog 12 #[.slice ad l cp] w fun v w' => ∃ N E, v = .returned (.tuple #[.slice (some ⟨N, 0, none⟩) l l, .slice (some ⟨E, 0, none⟩) l l]) ∧ Fills w' N 9 l (nameAt key) l ∧ Fills w' E 4 l (eachAt key) l ∧ Below w.heap.size w w' := by
  obtain ⟨A, hA, hmk⟩ := make_row 29 9 _ 1 16 l under29 info9 (by omega) (by omega)
  obtain ⟨B, hB, hmk2⟩ := make_row 30 4 _ 1 1 l under30 info4 (by omega) (by omega)
  rw [Nat.mul_one] at hA hB
  have HS : Hid (0 < l → ∃ b p, ad = some ⟨b, p, none⟩ ∧ StepsAt w b p key) := hS
  have HK : Hid (l = key.length) := hl
  have H0 : Hid (PartsRel w l key (.int .i64 0) ((w.alloc (.cells A 9)).alloc (.cells B 4))) := by
    refine ⟨0, by omega, rfl, (Fills.made hA _).keep (Below.heap_alloc _ _ _ (by simp)), ?_, by go_grown⟩
    have := Fills.made (w := w.alloc (.cells A 9)) (t := 4) hB (eachAt key)
    simpa using this
  clear hS hl hA hB
  go_enter Try.func12, Try.ntmps12
  go_wp2
  go_loopw [6] (fun i wr => Hid (PartsRel w l key i wr)) (fun i _ => l - (intOf i).toNat)
  case atStart => exact H0
  case round =>
    obtain ⟨k, hk, rfl, hf1, hf2, hb⟩ := hrel.out
    clear hrel
    have HB : Hid (Below w.heap.size w wr) := hb
    have HF1 : Hid (Fills wr w.heap.size 9 l (nameAt key) k) := hf1
    have HF2 : Hid (Fills wr (w.heap.size + 1) 4 l (eachAt key) k) := hf2
    clear hf1 hf2 hb
    by_cases h1 : k < l
    · obtain ⟨b, p, rfl, hS⟩ := HS.out (by omega)
      obtain ⟨s, hs⟩ : ∃ s, key[k]? = some s := ⟨_, List.getElem?_eq_getElem (by rw [← HK.out]; exact h1)⟩
      obtain ⟨k0, k1⟩ := hS k s hs
      have HW : Hid (b < w.heap.size) := cell_lt k0
      have c0 : wr.cell? ⟨b, p + k * 2, none⟩ = some (.string s.1) := by rw [World.cell?_of_block (w := w) (a := ⟨b, _, none⟩) (HB.out.block b HW.out)]; exact k0
      have c1 : (wr.setCell ⟨w.heap.size, k, none⟩ (.string s.1)).cell? ⟨b, p + k * 2 + 1, none⟩ = some (.bool s.2) := by
        rw [World.cell?_of_block (w := w) (a := ⟨b, _, none⟩)]
        · exact k1
        · rw [Below.heap_setCell _ _ _ _ (by have := HW.out; exact fun e => by simp only at e; omega)]
          exact HB.out.block b HW.out
      obtain ⟨⟨v1, g1⟩, g2⟩ := HF1.out.has h1
      obtain ⟨⟨v2, g3⟩, g4⟩ := (HF2.out.keep (w' := wr.setCell ⟨w.heap.size, k, none⟩ (.string s.1)) (Below.heap_setCell _ _ _ _ (by simp))).has h1
      have HS1 : Hid (key[k]? = some s) := hs
      clear hS k0 k1 hs
      have hi0 : (0 : Int) ≤ (k : Int) := by omega
      have hi1 : (k : Int) < (l : Int) := by omega
      have d1 : decide ((k : Int) < (l : Int)) = true := decide_eq_true hi1
      go_wp2
      go_roundw
      case rel =>
        refine ⟨k + 1, by omega, by go_num, ((HF1.out.put h1 (by unfold nameAt; rw [HS1.out]; rfl)).keep (Below.heap_setCell _ _ _ _ (by simp))), ?_, (HB.out.setCell (p := ⟨w.heap.size, k, none⟩) (by simp) _).setCell (p := ⟨w.heap.size + 1, k, none⟩) (by simp) _⟩
        exact (HF2.out.keep (w' := wr.setCell ⟨w.heap.size, k, none⟩ (.string s.1)) (Below.heap_setCell _ _ _ _ (by simp))).put h1 (by unfold eachAt; rw [HS1.out]; rfl)
      case measure => simp [intOf]; omega
    · have d1 : decide ((k : Int) < (l : Int)) = false := decide_eq_false (by omega)
      go_wp2
      have hkl : k = l := by omega
      subst hkl
      exact bodyPost_ret (v := .tuple #[.slice (some ⟨w.heap.size, 0, none⟩) k k, .slice (some ⟨w.heap.size + 1, 0, none⟩) k k]) (by simp [results, Try.results12, go_sem]) rfl ⟨_, _, rfl, HF1.out, HF2.out, HB.out⟩

/-! ### ZZNewFieldRoot -/
def rootN : Nd := { path := [], par := none, elen := 0, K := 0, o := 0, cap := 0, mp := none, each := none, cl := ⟨0, 0, 0, 0⟩ }
def rootT (r : Nat) : Tree := upd (fun _ => none) r rootN
theorem root_get {r k : Nat} {d : Nd} (h : rootT r k = some d) : k = r ∧ d = rootN := by
  unfold rootT at h
  by_cases e : k = r
  · subst e; rw [upd_same] at h; injection h with h; exact ⟨rfl, h.symm⟩
  · rw [upd_other _ _ e] at h; cases h
theorem root_st (w : World) : St (w.alloc (.cells (nodeArr (.slice none 0 0) (.pointer none) (.map none) (.pointer none) ⟨0, 0, 0, 0⟩) 57)) (rootT w.heap.size) w.heap.size 0 [] (claimsOf []) := by
  have hr : rootT w.heap.size w.heap.size = some rootN := upd_same _ _ _
  have hnc : ∀ p s y, ¬ Child (rootT w.heap.size) p s y := by
    rintro p s y ⟨d, h1, h2, _⟩
    obtain ⟨_, rfl⟩ := root_get h1
    cases h2
  refine ⟨⟨⟨rootN, hr, rfl, rfl, rfl⟩, ?_, ?_, ?_, ?_⟩, ⟨?_, ?_, ?_, ?_, ?_⟩, ?_, ?_⟩
  · intro b d hb hne; exact absurd (root_get hb).1 hne
  · intro b d b' d' hb hb' _; rw [(root_get hb).1, (root_get hb').1]
  · intro p s x y hx; exact absurd hx (hnc _ _ _)
  · intro b d hb s hs; obtain ⟨_, rfl⟩ := root_get hb; cases hs
  · intro b d hb; obtain ⟨rfl, rfl⟩ := root_get hb; exact newHeap w _
  · intro b d hb he; obtain ⟨rfl, rfl⟩ := root_get hb; exact absurd he (by simp [rootN])
  · intro b d hb
    obtain ⟨rfl, rfl⟩ := root_get hb
    refine ⟨fun _ => none, fun _ => rfl, fun s _ x => ⟨fun h => (by cases h), fun h => absurd h (hnc _ _ _)⟩⟩
  · intro b d hb x
    obtain ⟨rfl, rfl⟩ := root_get hb
    exact ⟨fun h => (by cases h), fun h => absurd h (hnc _ _ _)⟩
  · intro b d b' d' m hb hb' _ _; rw [(root_get hb).1, (root_get hb').1]
  · intro m hm; cases hm
  · intro b d hb; obtain ⟨rfl, rfl⟩ := root_get hb; rfl

set_option maxRecDepth 100000 in
theorem root_any (w : World) : Calls Try.prog 11 #[] w fun v w' => v = .returned (.pointer (some ⟨w.heap.size, 0, none⟩)) ∧ w' = w.alloc (.cells (nodeArr (.slice none 0 0) (.pointer none) (.map none) (.pointer none) ⟨0, 0, 0, 0⟩) 57) := by
  go_enter Try.func11, Try.ntmps11
  go_wp2
  go_ret
  exact ⟨rfl, rfl⟩

/-! ### ZZCountField -/
def RowRel (w : World) (K l : Nat) (key : Key) (i : Value) (wr : World) : Prop :=
  ∃ k : Nat, k ≤ l ∧ i = .int .i64 k ∧ (∃ arr : Array Value, wr.heap[K]? = some (.cells arr 59 (0, 0)) ∧ arr.size = l * 2 ∧ ∀ i s, i < k → key[i]? = some s → arr[i * 2]? = some (.string s.1) ∧ arr[i * 2 + 1]? = some (.bool s.2)) ∧ Below w.heap.size w wr

set_option maxRecDepth 100000 in
set_option maxHeartbeats 4000000 in
theorem zzCount_any (w : World) (T : Tree) (r c N E l : Nat) (S : List Clm) (m : Clm) (hl : l = m.key.length) (h : St w T r c S (claimsOf S)) (hc : c + l + 1 < 1000000000) (h0 : ∀ m ∈ S, m.place ≠ 0) (hd : ∀ s ∈ m.key, StepOk s) (hlen : l ≤ 65536) (hN : Fills w N 9 l (nameAt m.key) l) (hE : Fills w E 4 l (eachAt m.key) l) :
    Calls Try.prog 13 #[.pointer (some ⟨r, 0, none⟩), .slice (some ⟨N, 0, none⟩) l l, .slice (some ⟨E, 0, none⟩) l l, .int .i64 m.place, .bool m.deny] w fun v w' => ∃ a, v = .returned (.pointer (some ⟨a, 0, none⟩)) ∧ CountPost w T r c S m w' a := by
  obtain ⟨A, hA, hmk⟩ := make_row 51 59 _ 2 24 l under51 info59 (by omega) (by omega)
  have HK : Hid (l = m.key.length) := hl
  have H0 : Hid (RowRel w w.heap.size l m.key (.int .i64 0) (w.alloc (.cells A 59))) :=
    ⟨0, by omega, rfl, ⟨A, newHeap w _, hA, fun i s hi => by omega⟩, by go_grown⟩
  have HP : Hid (∀ w1, Fr (fun _ => False) w w1 → KeyRow w1 w.heap.size m.key → Calls Try.prog 24 #[.pointer (some ⟨r, 0, none⟩), .slice (some ⟨w.heap.size, 0, none⟩) l l, .int .i64 m.place, .bool m.deny] w1 fun v w' => ∃ a, v = .returned (.pointer (some ⟨a, 0, none⟩)) ∧ CountPost w T r c S m w' a) := by
    intro w1 hF hrow
    refine (countField_any w1 T r c S m w.heap.size l hl (h.quiet hF) hc h0 hd hrow hlen).mono ?_
    rintro v w' ⟨a, rfl, T', c', da, h1, h2, h3, h4, h5⟩
    exact ⟨a, rfl, T', c', da, h1, h2, h3, (Ex.quiet T hF).trans h4, h5⟩
  have HN : Hid (Fills w N 9 l (nameAt m.key) l) := hN
  have HE : Hid (Fills w E 4 l (eachAt m.key) l) := hE
  clear hl h h0 hd hN hE hA
  go_enter Try.func13, Try.ntmps13
  go_wp2
  go_loopw [18] (fun i wr => Hid (RowRel w w.heap.size l m.key i wr)) (fun i _ => l - (intOf i).toNat)
  case atStart => exact H0
  case round =>
    obtain ⟨k, hk, rfl, hrow, hb⟩ := hrel.out
    clear hrel
    have HB : Hid (Below w.heap.size w wr) := hb
    obtain ⟨arr, ha1, ha2, ha3⟩ := hrow
    have HA1 : Hid (wr.heap[w.heap.size]? = some (.cells arr 59 (0, 0))) := ha1
    have HA2 : Hid (arr.size = l * 2) := ha2
    have HA3 : Hid (∀ i s, i < k → m.key[i]? = some s → arr[i * 2]? = some (.string s.1) ∧ arr[i * 2 + 1]? = some (.bool s.2)) := ha3
    clear ha1 ha2 ha3 hb
    by_cases h1 : k < l
    · obtain ⟨s, hs⟩ : ∃ s, m.key[k]? = some s := ⟨_, List.getElem?_eq_getElem (by rw [← HK.out]; exact h1)⟩
      have c0 : wr.cell? ⟨N, k, none⟩ = some (.string s.1) := by
        rw [World.cell?_of_block (w := w) (a := ⟨N, _, none⟩) (HB.out.block N HN.out.lt), HN.out.get h1]; unfold nameAt; rw [hs]; rfl
      have c1 : wr.cell? ⟨E, k, none⟩ = some (.bool s.2) := by
        rw [World.cell?_of_block (w := w) (a := ⟨E, _, none⟩) (HB.out.block E HE.out.lt), HE.out.get h1]; unfold eachAt; rw [hs]; rfl
      have f0 : wr.frozen? ⟨w.heap.size, k * 2, none⟩ = false := blk_frozen HA1.out
      have f1 : wr.frozen? ⟨w.heap.size, k * 2 + 1, none⟩ = false := blk_frozen HA1.out
      obtain ⟨v0, g0⟩ : ∃ v, wr.cell? ⟨w.heap.size, k * 2, none⟩ = some v := ⟨_, by rw [blk_cell HA1.out]; exact Array.getElem?_eq_getElem (by rw [HA2.out]; omega)⟩
      obtain ⟨v1, g1⟩ : ∃ v, wr.cell? ⟨w.heap.size, k * 2 + 1, none⟩ = some v := ⟨_, by rw [blk_cell HA1.out]; exact Array.getElem?_eq_getElem (by rw [HA2.out]; omega)⟩
      have HS1 : Hid (m.key[k]? = some s) := hs
      clear hs
      have hi0 : (0 : Int) ≤ (k : Int) := by omega
      have hi1 : (k : Int) < (l : Int) := by omega
      have d1 : decide ((k : Int) < (l : Int)) = true := decide_eq_true hi1
      go_wp2
      go_region
      all_goals go_wp2
      go_roundw
      case rel =>
        have hb2 : (((wr.setCell ⟨w.heap.size, k * 2, none⟩ (.string s.1)).setCell ⟨w.heap.size, k * 2 + 1, none⟩ (.bool s.2)).drew).heap[w.heap.size]? = some (.cells ((arr.setIfInBounds (k * 2) (.string s.1)).setIfInBounds (k * 2 + 1) (.bool s.2)) 59 (0, 0)) := blk_set _ (blk_set _ HA1.out)
        refine ⟨k + 1, by omega, by go_num, ⟨_, hb2, by rw [Array.size_setIfInBounds, Array.size_setIfInBounds]; exact HA2.out, fun i s' hi hs' => ?_⟩, ?_⟩
        · have h2 := HA2.out
          rw [Array.getElem?_setIfInBounds, Array.getElem?_setIfInBounds, Array.getElem?_setIfInBounds, Array.getElem?_setIfInBounds, Array.size_setIfInBounds]
          by_cases e : i = k
          · subst e
            rw [HS1.out] at hs'
            injection hs' with hs'
            subst hs'
            rw [if_neg (by omega), if_pos rfl, if_pos (by omega), if_pos rfl, if_pos (by omega)]
            exact ⟨rfl, rfl⟩
          · rw [if_neg (by omega), if_neg (by omega), if_neg (by omega), if_neg (by omega)]
            exact HA3.out i s' (by omega) hs'
        · exact below_drewN ((HB.out.setCell (p := ⟨w.heap.size, k * 2, none⟩) (by simp) _).setCell (p := ⟨w.heap.size, k * 2 + 1, none⟩) (by simp) _) 1
      case measure => simp [intOf]; omega
    · have d1 : decide ((k : Int) < (l : Int)) = false := decide_eq_false (by omega)
      have hkl : k = l := by omega
      have HR : Hid (KeyRow wr w.heap.size m.key) := ⟨arr, HA1.out, fun i s hi => HA3.out i s (by rw [hkl, HK.out]; exact (List.getElem?_eq_some_iff.1 hi).1) hi⟩
      have HC := HP.out wr (Fr.ofBelow HB.out) HR.out
      go_wp2_with fail
      refine HC.mono ?_
      rintro v w' ⟨a, rfl, hp⟩
      have HQ : Hid (CountPost w T r c S m w' a) := hp
      clear hp HC
      go_wp2_with fail
      go_ret
      exact ⟨a, rfl, HQ.out⟩
end Go.Proofs.Qxb6602090a
