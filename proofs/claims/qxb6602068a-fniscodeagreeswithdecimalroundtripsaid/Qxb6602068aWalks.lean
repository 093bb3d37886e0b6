/-
  Seat b6602068a: the walks of zzPad6 (7), IsCode (6), zzBytes_.. (5).
-/
import Derived.Test.Qxb6602068aRows
import Derived.Test.Qxb6602068aPlain
import Derived.WalkKit
import Derived.ProofKit
import Derived.OpenShut
import Derived.ShutString
import Derived.Handy
namespace Go.Proofs.Qxb6602068a
open Go.RowKit

/-! ### The buffer -/
theorem addr_add (b p j : Nat) : (⟨b, p, none⟩ : Addr).add j = ⟨b, p + j, none⟩ := by
  unfold Addr.add
  split
  · rename_i h; subst h; rfl
  · rfl

/-- The last cells of the buffer of 24 hold the bytes l. -/
def BufL (l : List UInt8) (arr : Array Value) : Prop :=
  arr.size = 24 ∧ l.length ≤ 24 ∧ ∀ j (hj : j < l.length), arr[24 - l.length + j]? = some (.int .u8 ((l[j]).toNat : Int))

theorem buf_cons {l : List UInt8} {arr : Array Value} (h : BufL l arr) (ht : l.length < 24) (c : UInt8) (x : Int) (hx : x = (c.toNat : Int)) (p : Nat) (hp : p = 24 - l.length - 1) :
    BufL (c :: l) (arr.setIfInBounds p (.int .u8 x)) := by
  subst hx; subst hp
  obtain ⟨hs, _, hc⟩ := h
  refine ⟨by simp [hs], by simp; omega, fun j hj => ?_⟩
  simp only [List.length_cons] at hj ⊢
  cases j with
  | zero =>
    rw [Array.getElem?_setIfInBounds, if_pos (by omega), if_pos (by omega)]
    simp
  | succ j =>
    rw [Array.getElem?_setIfInBounds, if_neg (by omega), show 24 - (l.length + 1) + (j + 1) = 24 - l.length + j from by omega, hc j (by omega)]
    simp

theorem arr26 : Try.prog.arrayLen 26 = 24 := by kernel_rfl
theorem elem26 : Try.prog.elem 26 = 5 := by kernel_rfl
theorem slice_buf (b p : Nat) (hp : p < 24) (W : World) : (Instr.sliceAt 26 (.pointer (some ⟨b,0,none⟩)) (some (.int .i64 (p : Int))) none none).run Try.prog W = .ok (.slice (some ⟨b, p, none⟩) (24 - p) (24 - p)) W := by
  rw [run_sliceAt_array_l W 26 ⟨b,0,none⟩ (by rw [arr26, elem26]; exact Try.underlying26) .i64 p (by omega) (by rw [arr26]; omega), arr26, elem26]
  have hsz : (sizeOf 5).run Try.prog W = .ok 1 W := by simp [go_sem]
  rw [hsz]
  have hne : ¬ (24 : Nat) = p := by omega
  simp [slicedAt, addr_add, hne]

theorem conv_back (W : World) (b p n cap : Nat) (l : List UInt8) (hn : l.length = n) (hc : ∀ j (hj : j < l.length), W.cell? ⟨b, p + j, none⟩ = some (.int .u8 (l[j].toNat : Int))) :
    (convert 25 9 (.slice (some ⟨b, p, none⟩) n cap)).run Try.prog W = .ok (.string ⟨l.toArray⟩) W := by
  subst hn
  exact run_convert_bytes_back W 25 9 5 ⟨b, p, none⟩ cap l Try.underlying25 Try.underlying5 Try.underlying9 (fun j hj => by rw [addr_add]; exact hc j hj)

theorem conv_buf (w : World) (p n : Nat) (l : List UInt8) (arr : Array Value) (h : BufL l arr) (hp : p = 24 - l.length) (hn : n = l.length) :
    (convert 25 9 (.slice (some ⟨w.heap.size, p, none⟩) n n)).run Try.prog (w.alloc (.cells arr 26)) = .ok (.string ⟨l.toArray⟩) (w.alloc (.cells arr 26)) := by
  subst hp; subst hn
  refine conv_back _ _ _ _ _ _ rfl fun j hj => ?_
  rw [World.cell?_alloc_mark]
  exact h.2.2 j hj

/-- What holds at every round's head of zzPad6's loop: t digits are written, q is what is left of m. -/
def At (m t q : Nat) (arr : Array Value) : Prop :=
  q < 10^(20-t) ∧ q = m / 10^t ∧ (6 < t → 10^(t-1) ≤ m) ∧ BufL (lows m t) arr

theorem at_zero (m : Nat) (arr : Array Value) (hm : m < 10^20) (hs : arr.size = 24) : At m 0 m arr :=
  ⟨by simpa using hm, by simp, by simp, hs, by simp [lows], fun j hj => by simp [lows] at hj⟩

theorem at_lt {m t q : Nat} {arr : Array Value} (h : At m t q arr) (ht : t ≤ 20) (hc : 0 < q ∨ t < 6) : t < 20 := by
  have := h.1
  rcases Nat.lt_or_ge t 20 with h | h
  · exact h
  · rw [show 20 - t = 0 from by omega] at this; simp at this; omega

theorem at_size {m t q : Nat} {arr : Array Value} (h : At m t q arr) : arr.size = 24 := h.2.2.2.1

theorem at_step {m t q : Nat} {arr : Array Value} (h : At m t q arr) (ht : t < 20) (hc : 0 < q ∨ t < 6) : At m (t+1) (q/10) (arr.setIfInBounds (24 - t - 1) (.int .u8 (48 + (q : Int) % 10))) := by
  obtain ⟨e1, e2, e3, hb⟩ := h
  refine ⟨?_, ?_, fun h => ?_, ?_⟩
  · rw [show 20 - t = (20-(t+1)) + 1 from by omega, Nat.pow_succ] at e1
    omega
  · rw [e2, Nat.div_div_eq_div_mul, Nat.pow_succ]
  · have hq0 : 0 < m / 10^t := by omega
    simp only [Nat.add_sub_cancel]
    exact (Nat.div_pos_iff.1 hq0).2
  · refine buf_cons hb (by rw [lows_length]; omega) _ _ ?_ _ (by rw [lows_length])
    rw [dig_toNat, e2]
    simp

theorem at_end {m t : Nat} {arr : Array Value} (h : At m t 0 arr) : m < 10^t := by
  have := h.2.1
  rcases Nat.lt_or_ge m (10^t) with h | h
  · exact h
  · have : 0 < m / 10^t := Nat.div_pos h (Nat.pow_pos (by omega))
    omega

theorem ret_string {a b : ByteArray} (h : a = b) : Ending.returned (.string a) = .returned (.string b) := by rw [h]

set_option maxHeartbeats 400000 in
theorem pad_pos (a0 : Int) (h0 : 0 ≤ a0) (h1 : a0 ≤ 9223372036854775807) (w : World) :
    Calls Try.prog 7 #[.int .i64 a0] w fun e w' => ∃ l, e = .returned (.string ⟨l.toArray⟩) ∧ PadOf a0 l ∧ Below w.heap.size w w' := by
  have hn : ¬ a0 < 0 := by omega
  obtain ⟨m, rfl⟩ := Int.eq_ofNat_of_zero_le h0
  go_enter Try.func7, Try.ntmps7
  go_wp2
  go_loopw [4, 6, 7] (fun i mm d wr => ∃ t : Nat, ∃ q : Nat, ∃ p : Nat, ∃ arr : Array Value, wr = w.alloc (.cells arr 26) ∧ t ≤ 20 ∧ p + t = 24 ∧ q ≤ 18446744073709551615 ∧ At m t q arr ∧ i = .int .i64 p ∧ mm = .int .u64 q ∧ d = .int .i64 t)
    (fun _ _ d _ => 24 - (intOf d).toNat)
  case atStart => exact ⟨0, m, 24, _, rfl, by omega, by omega, by omega, at_zero m _ (by omega) rfl, rfl, rfl, rfl⟩
  case round =>
    obtain ⟨t, q, p, arr, rfl, ht, hpt, hq, hA, rfl, rfl, rfl⟩ := hrel
    by_cases hc : 0 < q ∨ t < 6
    · have ht2 := at_lt hA ht hc
      obtain ⟨v0, hv0⟩ : ∃ v, arr[p-1]? = some v := ⟨_, Array.getElem?_eq_getElem (by rw [at_size hA]; omega)⟩
      have hS := at_step hA ht2 hc
      rw [show 24 - t - 1 = p - 1 from by omega] at hS
      have hp1 : 1 ≤ p := by omega
      clear hA
      by_cases hq0 : 0 < q
      all_goals
        go_wp2
        go_roundw
        case rel => exact ⟨t+1, q/10, p-1, _, rfl, by omega, by omega, by omega, hS, by go_num, by go_num, by go_num⟩
        case measure => simp [intOf]; omega
    · have hq0 : q = 0 := by omega
      subst hq0
      have ht6 : ¬ t < 6 := by omega
      clear hc
      have hsl := slice_buf w.heap.size p (by omega)
      have hcv := conv_buf w p (24 - p) (lows m t) arr hA.2.2.2 (by rw [lows_length]; omega) (by rw [lows_length]; omega)
      go_wp2
      go_ret
      refine ⟨lows m t, rfl, ⟨t, by omega, ?_, ?_, ?_⟩, by go_grown⟩
      · exact at_end hA
      · exact hA.2.2.1
      · rw [if_neg (by omega)]; rfl

set_option maxHeartbeats 400000 in
theorem pad_neg (a0 : Int) (h0 : a0 < 0) (h1 : -9223372036854775808 ≤ a0) (w : World) :
    Calls Try.prog 7 #[.int .i64 a0] w fun e w' => ∃ l, e = .returned (.string ⟨l.toArray⟩) ∧ PadOf a0 l ∧ Below w.heap.size w w' := by
  obtain ⟨m, hm⟩ : ∃ m : Nat, m = a0.natAbs := ⟨_, rfl⟩
  have HM : Hid (m = a0.natAbs) := hm
  have hm1 : (m : Int) = -a0 := by omega
  clear hm
  have HM1 : Hid ((m : Int) = -a0) := hm1
  clear hm1
  go_enter Try.func7, Try.ntmps7
  go_wp2
  go_loopw [4, 6, 7] (fun i mm d wr => ∃ t : Nat, ∃ q : Nat, ∃ p : Nat, ∃ arr : Array Value, wr = w.alloc (.cells arr 26) ∧ t ≤ 20 ∧ p + t = 24 ∧ q ≤ 18446744073709551615 ∧ At m t q arr ∧ i = .int .i64 p ∧ mm = .int .u64 q ∧ d = .int .i64 t)
    (fun _ _ d _ => 24 - (intOf d).toNat)
  case atStart =>
    have hm1 := HM1.out
    exact ⟨0, m, 24, _, rfl, by omega, by omega, by omega, at_zero m _ (by omega) rfl, rfl, by rw [hm1]; go_num, rfl⟩
  case round =>
    obtain ⟨t, q, p, arr, rfl, ht, hpt, hq, hA, rfl, rfl, rfl⟩ := hrel
    by_cases hc : 0 < q ∨ t < 6
    · have ht2 := at_lt hA ht hc
      obtain ⟨v0, hv0⟩ : ∃ v, arr[p-1]? = some v := ⟨_, Array.getElem?_eq_getElem (by rw [at_size hA]; omega)⟩
      have hS := at_step hA ht2 hc
      rw [show 24 - t - 1 = p - 1 from by omega] at hS
      have hp1 : 1 ≤ p := by omega
      clear hA
      by_cases hq0 : 0 < q
      all_goals
        go_wp2
        go_roundw
        case rel => exact ⟨t+1, q/10, p-1, _, rfl, by omega, by omega, by omega, hS, by go_num, by go_num, by go_num⟩
        case measure => simp [intOf]; omega
    · have hq0 : q = 0 := by omega
      subst hq0
      have ht6 : ¬ t < 6 := by omega
      clear hc
      have hp1 : 1 ≤ p := by omega
      obtain ⟨v0, hv0⟩ : ∃ v, arr[p-1]? = some v := ⟨_, Array.getElem?_eq_getElem (by rw [at_size hA]; omega)⟩
      have hB := buf_cons hA.2.2.2 (by rw [lows_length]; omega) 45 45 rfl (p - 1) (by rw [lows_length]; omega)
      have hsl := slice_buf w.heap.size (p-1) (by omega)
      have e1 : ((p - 1 : Nat) : Int) = (p : Int) - 1 := by omega
      rw [e1] at hsl
      clear e1
      have hcv := conv_buf w (p-1) (24 - (p-1)) (45 :: lows m t) _ hB (by simp [lows_length]; omega) (by simp [lows_length]; omega)
      go_wp2
      go_ret
      have hm2 := HM.out
      refine ⟨45 :: lows m t, rfl, ⟨t, by omega, ?_, ?_, ?_⟩, by go_grown⟩
      · rw [← hm2]; exact at_end hA
      · rw [← hm2]; exact hA.2.2.1
      · rw [if_pos h0, ← hm2]

/-- zzPad6, whatever the number. -/
theorem pad_any (a0 : Int) (h0 : -9223372036854775808 ≤ a0) (h1 : a0 ≤ 9223372036854775807) (w : World) :
    Calls Try.prog 7 #[.int .i64 a0] w fun e w' => ∃ l, e = .returned (.string ⟨l.toArray⟩) ∧ PadOf a0 l ∧ Below w.heap.size w w' := by
  by_cases h : a0 < 0
  · exact pad_neg a0 h h0 w
  · exact pad_pos a0 (by omega) h1 w

/-! ### IsCode -/
theorem ret_bool {a b : Bool} (h : a = b) : Ending.returned (.bool a) = .returned (.bool b) := by rw [h]

theorem code_no (s : ByteArray) (k : Nat) {c : UInt8} (h : (s.data.toList.take (k+1)).all digB = digB c) (hc : digB c = false) : isCodeB s.data.toList = false := by
  have ha : s.data.toList.all digB = false := by
    rw [← List.take_append_drop (k+1) s.data.toList, List.all_append, h, hc]; rfl
  simp only [isCodeB, ha, Bool.and_false]
theorem code_yes (s : ByteArray) (h6 : s.size = 6) (h : (s.data.toList.take 6).all digB = true) : isCodeB s.data.toList = true := by
  have hl : s.data.toList.length = 6 := h6
  rw [List.take_of_length_le (by omega)] at h
  simp only [isCodeB, h, hl]; rfl

set_option maxHeartbeats 400000 in
theorem code_any (s : ByteArray) (w : World) :
    Calls Try.prog 6 #[.string s] w fun e w' => e = .returned (.bool (isCodeB s.data.toList)) ∧ Below w.heap.size w w' := by
  by_cases h6 : s.size = 6
  · have hc := fun W => run_bytes_of_string (P := Try.prog) W 9 25 5 s Try.underlying9 Try.underlying25 Try.underlying5
    go_enter Try.func6, Try.ntmps6
    go_wp2
    go_loop [11] (fun i => ∃ k : Nat, k ≤ 6 ∧ i = .int .i64 k ∧ Hid ((s.data.toList.take k).all digB = true)) (fun i => 6 - (intOf i).toNat)
    case atStart => exact ⟨0, by omega, rfl, by simp [Hid]⟩
    case round =>
      obtain ⟨k, hk, rfl, HK⟩ := hrel
      by_cases hlt : k < 6
      · obtain ⟨c, hcd⟩ : ∃ c, c = s.data[k]'(by have : s.data.size = 6 := h6; omega) := ⟨_, rfl⟩
        have hcell : (w.alloc (Obj.cells (bytesRow s (grownCap w 6 0 5)) 5 ((bytesRow s (grownCap w 6 0 5)).size, (bytesRow s (grownCap w 6 0 5)).size + 1))).cell? ⟨w.heap.size, k, none⟩ = some (.int .u8 (c.toNat : Int)) := by
          rw [World.cell?_alloc_mark, bytesRow_at _ _ _ (by have : s.data.size = 6 := h6; omega), hcd]
        have hc8 := c.toNat_lt
        have HS : Hid ((s.data.toList.take (k+1)).all digB = digB c) := by
          have : s.data.toList.take (k+1) = s.data.toList.take k ++ [c] := by
            rw [List.take_succ_eq_append_getElem (by have : s.data.size = 6 := h6; simp; omega), hcd]; simp
          unfold Hid
          rw [this, List.all_append, HK.out]
          simp
        clear hcd
        by_cases hlo : (c.toNat : Int) < 48
        · go_wp2
          go_ret
          refine ⟨ret_bool (code_no s k HS.out (by simp [digB]; omega)).symm, by go_grown⟩
        · by_cases hhi : (57 : Int) < c.toNat
          · go_wp2
            go_ret
            refine ⟨ret_bool (code_no s k HS.out (by simp [digB]; omega)).symm, by go_grown⟩
          · go_wp2
            go_round
            case rel => exact ⟨k + 1, by omega, by go_num, by rw [Hid, HS.out]; simp [digB]; omega⟩
            case measure => simp [intOf]; omega
      · have : k = 6 := by omega
        subst this
        go_wp2
        go_ret
        refine ⟨ret_bool (code_yes s h6 HK.out).symm, by go_grown⟩
  · have h6' : ((s.size : Int) != 6) = true := by rw [bne_iff_ne]; omega
    go_enter Try.func6, Try.ntmps6
    go_wp2
    go_ret
    refine ⟨ret_bool ?_, Below.refl _ _⟩
    have : (s.data.toList.length == 6) = false := by simpa using h6
    unfold isCodeB; rw [this]; rfl
end Go.Proofs.Qxb6602068a
