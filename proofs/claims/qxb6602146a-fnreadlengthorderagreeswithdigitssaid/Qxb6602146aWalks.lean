/-
  Seat b6602146a: the walks of readLength (20), ZZreadLength (12), fpb1IsLength (13), fpb1Decimal (14), fpb1WithoutLeadingZeros (15), fpb1ShorterOrSmaller (17).
-/
import Derived.Test.Qxb6602146aRows
import Derived.Test.Qxb6602146aPlain
import Derived.WalkKit
import Derived.ProofKit
import Derived.OpenShut
import Derived.ShutString
import Derived.Handy
import Derived.PlainAid
import Derived.WalkSpells
import Derived.WalkLawsBesides
import Derived.Deep.QuietTactic
import Derived.BigQuiet
import Derived.Lib.Strings
namespace Go.Proofs.Qxb6602146a
open Go.RowKit Go.PlainAid

theorem ret_bool {a b : Bool} (h : a = b) : Ending.returned (.bool a) = .returned (.bool b) := by rw [h]

/-! ### Bytes of a text -/
theorem bt_get (s : ByteArray) (k : Nat) (h : k < s.size) : bt s k = ((s.data.toList[k]'h).toNat : Int) := by
  unfold bt; rw [dif_pos h]; rfl
theorem take_snoc (s : ByteArray) (k : Nat) (h : k < s.size) : s.data.toList.take (k + 1) = s.data.toList.take k ++ [s.data.toList[k]'h] := by
  rw [List.take_succ_eq_append_getElem (by exact h)]
theorem take_all (s : ByteArray) : s.data.toList.take s.size = s.data.toList := List.take_of_length_le (Nat.le_refl _)
theorem all_step (s : ByteArray) (k : Nat) (h : k < s.size) (hp : (s.data.toList.take k).all digB = true) (h1 : 48 ≤ bt s k) (h2 : bt s k ≤ 57) : (s.data.toList.take (k+1)).all digB = true := by
  rw [bt_get s k h] at h1 h2
  rw [take_snoc s k h, List.all_append, hp]
  simp only [List.all_cons, List.all_nil, Bool.and_true, Bool.true_and, digB_iff]
  omega
theorem all_no (s : ByteArray) (k : Nat) (h : k < s.size) (hb : ¬ (48 ≤ bt s k ∧ bt s k ≤ 57)) : s.data.toList.all digB = false := by
  rw [bt_get s k h] at hb
  rw [List.all_eq_false]
  refine ⟨_, List.getElem_mem h, ?_⟩
  rw [digB_iff]
  omega
theorem isLen_of (s : ByteArray) (h1 : 1 ≤ s.size) (h2 : s.size ≤ 18) : isLenB s.data.toList = s.data.toList.all digB := by
  have hl : s.data.toList.length = s.size := rfl
  simp [isLenB, hl, h1, h2]
theorem isLen_not (s : ByteArray) (h : ¬ (1 ≤ s.size ∧ s.size ≤ 18)) : isLenB s.data.toList = false := by
  have hl : s.data.toList.length = s.size := rfl
  simp only [isLenB, hl, Bool.and_eq_false_iff, decide_eq_false_iff_not]
  exact Or.inl (by omega)
theorem isLen_yes {s : ByteArray} (h : isLenB s.data.toList = true) : 1 ≤ s.size ∧ s.size ≤ 18 ∧ s.data.toList.all digB = true := by
  have hl : s.data.toList.length = s.size := rfl
  simp only [isLenB, hl, Bool.and_eq_true, decide_eq_true_eq] at h
  exact ⟨h.1.1, h.1.2, h.2⟩

/-! ### fpb1IsLength -/
set_option maxHeartbeats 400000 in
theorem isLength_any (s : ByteArray) (w : World) : Calls Try.prog 13 #[.string s] w fun e w' => e = .returned (.bool (isLenB s.data.toList)) ∧ w' = w := by
  by_cases h1 : 1 ≤ s.size
  · by_cases h2 : s.size ≤ 18
    · have hb := get_bt s
      have y1 : decide ((s.size : Int) < 1) = false := decide_eq_false (by omega)
      have y2 : decide ((18 : Int) < (s.size : Int)) = false := decide_eq_false (by omega)
      go_enter Try.func13, Try.ntmps13
      go_wp2
      clear y1 y2
      go_loop [3] (fun i => ∃ k : Nat, k ≤ s.size ∧ i = .int .i64 k ∧ Hid ((s.data.toList.take k).all digB = true)) (fun i => s.size - (intOf i).toNat)
      case atStart => exact ⟨0, by omega, rfl, by simp [Hid]⟩
      case round =>
        obtain ⟨k, hk, rfl, HK⟩ := hrel
        by_cases hlt : k < s.size
        · have hb0 := bt_nonneg s k
          by_cases c1 : bt s k < 48
          · go_wp2
            go_ret
            exact ⟨ret_bool (by rw [isLen_of s h1 h2, all_no s k hlt (by omega)]), rfl⟩
          · by_cases c2 : 57 < bt s k
            · go_wp2
              go_ret
              exact ⟨ret_bool (by rw [isLen_of s h1 h2, all_no s k hlt (by omega)]), rfl⟩
            · go_wp2
              go_round
              case rel => exact ⟨k + 1, by omega, by go_num, all_step s k hlt HK.out (by omega) (by omega)⟩
              case measure => simp [intOf]; omega
        · have : k = s.size := by omega
          subst this
          have HA : Hid (s.data.toList.all digB = true) := by have := HK.out; rwa [take_all] at this
          go_wp2
          go_ret
          exact ⟨ret_bool (by rw [isLen_of s h1 h2, HA.out]), rfl⟩
    · rw [isLen_not s (by omega)]
      go_enter Try.func13, Try.ntmps13
      go_wp2
      go_ret
      exact ⟨rfl, rfl⟩
  · rw [isLen_not s (by omega)]
    go_enter Try.func13, Try.ntmps13
    go_wp2
    go_ret
    exact ⟨rfl, rfl⟩

/-! ### readLength -/
theorem num_step (s : ByteArray) (k : Nat) (h : k < s.size) (h1 : 48 ≤ bt s k) : ((numv (s.data.toList.take (k+1)) : Nat) : Int) = (numv (s.data.toList.take k) : Int) * 10 + (bt s k - 48) := by
  rw [bt_get s k h] at h1 ⊢
  rw [take_snoc s k h, numv_snoc]
  omega
theorem num_bound (s : ByteArray) (k : Nat) (hk : k ≤ 18) (h : (s.data.toList.take k).all digB = true) : numv (s.data.toList.take k) < 1000000000000000000 := by
  have h1 := numv_lt _ h
  have h2 : (s.data.toList.take k).length ≤ 18 := by rw [List.length_take]; omega
  have h3 := Nat.pow_le_pow_right (n := 10) (by omega) h2
  omega
theorem num_bound17 (s : ByteArray) (k : Nat) (hk : k ≤ 17) (h : (s.data.toList.take k).all digB = true) : numv (s.data.toList.take k) < 100000000000000000 := by
  have h1 := numv_lt _ h
  have h2 : (s.data.toList.take k).length ≤ 17 := by rw [List.length_take]; omega
  have h3 := Nat.pow_le_pow_right (n := 10) (by omega) h2
  omega

theorem digs_at (s : ByteArray) (h : s.data.toList.all digB = true) (k : Nat) (hk : k < s.size) : 48 ≤ bt s k ∧ bt s k ≤ 57 := by
  rw [List.all_eq_true] at h
  have := h _ (List.getElem_mem (l := s.data.toList) hk)
  rw [digB_iff] at this
  rw [bt_get s k hk]
  omega

set_option maxHeartbeats 400000 in
theorem readLength_yes (s : ByteArray) (b : Nat) (v : Value) (w : World) (hl : isLenB s.data.toList = true) (hc : w.cell? ⟨b, 0, none⟩ = some v) (hf : w.frozen? ⟨b, 0, none⟩ = false) :
    Calls Try.prog 20 #[.string s, .pointer (some ⟨b, 0, none⟩)] w fun e w' => e = .returned (.bool true) ∧ w' = w.setCell ⟨b, 0, none⟩ (.int .i64 (numv s.data.toList)) := by
  obtain ⟨h1, h2, hd⟩ := isLen_yes hl
  clear hl
  have hb := get_bt s
  have hne : s.toList.isEmpty = false := by
    rw [ByteArray.toList_eq]
    have hl : s.data.toList.length = s.size := rfl
    cases hh : s.data.toList with
    | nil => rw [hh] at hl; simp at hl; omega
    | cons a l => rfl
  have y2 : decide ((18 : Int) < (s.size : Int)) = false := decide_eq_false (by omega)
  have HD : Hid (s.data.toList.all digB = true) := hd
  clear hd
  go_enter Try.func20, Try.ntmps20
  go_wp2
  clear y2 hne
  go_loop [5, 16] (fun n i => ∃ k : Nat, k ≤ s.size ∧ i = .int .i64 k ∧ n = .int .i64 (numv (s.data.toList.take k)) ∧ Hid ((s.data.toList.take k).all digB = true)) (fun _ i => s.size - (intOf i).toNat)
  case atStart => exact ⟨0, by omega, rfl, rfl, by simp [Hid]⟩
  case round =>
    obtain ⟨k, hk, rfl, rfl, HK⟩ := hrel
    by_cases hlt : k < s.size
    · have hdk := digs_at s HD.out k hlt
      have hnb := num_bound17 s k (by omega) HK.out
      have HN : Hid (((numv (s.data.toList.take (k+1)) : Nat) : Int) = (numv (s.data.toList.take k) : Int) * 10 + (bt s k - 48)) := num_step s k hlt hdk.1
      have HK2 := all_step s k hlt HK.out hdk.1 hdk.2
      have HK3 : Hid ((s.data.toList.take (k+1)).all digB = true) := HK2
      clear HK2
      go_wp2
      go_round
      case rel => exact ⟨k + 1, by omega, by go_num, by rw [HN.out], HK3⟩
      case measure => simp [intOf]; omega
    · have : k = s.size := by omega
      subst this
      have HT : Hid (s.data.toList.take s.size = s.data.toList) := take_all s
      go_wp2
      go_ret
      exact ⟨rfl, by rw [HT.out]⟩

set_option maxHeartbeats 400000 in
theorem readLength_no (s : ByteArray) (p : Value) (w : World) (hl : isLenB s.data.toList = false) :
    Calls Try.prog 20 #[.string s, p] w fun e w' => e = .returned (.bool false) ∧ w' = w := by
  have hb := get_bt s
  by_cases h1 : 1 ≤ s.size
  · have hne : s.toList.isEmpty = false := by
      rw [ByteArray.toList_eq]
      have hl : s.data.toList.length = s.size := rfl
      cases hh : s.data.toList with
      | nil => rw [hh] at hl; simp at hl; omega
      | cons a l => rfl
    by_cases h2 : s.size ≤ 18
    · have y2 : decide ((18 : Int) < (s.size : Int)) = false := decide_eq_false (by omega)
      have HL : Hid (s.data.toList.all digB = false) := by rw [isLen_of s h1 h2] at hl; exact hl
      clear hl
      go_enter Try.func20, Try.ntmps20
      go_wp2
      clear y2 hne
      go_loop [5, 16] (fun n i => ∃ k : Nat, k ≤ s.size ∧ i = .int .i64 k ∧ n = .int .i64 (numv (s.data.toList.take k)) ∧ Hid ((s.data.toList.take k).all digB = true)) (fun _ i => s.size - (intOf i).toNat)
      case atStart => exact ⟨0, by omega, rfl, rfl, by simp [Hid]⟩
      case round =>
        obtain ⟨k, hk, rfl, rfl, HK⟩ := hrel
        by_cases hlt : k < s.size
        · have hb0 := bt_nonneg s k
          by_cases c1 : bt s k < 48
          · go_wp2
            go_ret
            exact ⟨rfl, rfl⟩
          · by_cases c2 : 57 < bt s k
            · go_wp2
              go_ret
              exact ⟨rfl, rfl⟩
            · have hnb := num_bound17 s k (by omega) HK.out
              have HN : Hid (((numv (s.data.toList.take (k+1)) : Nat) : Int) = (numv (s.data.toList.take k) : Int) * 10 + (bt s k - 48)) := num_step s k hlt (by omega)
              have HK3 : Hid ((s.data.toList.take (k+1)).all digB = true) := all_step s k hlt HK.out (by omega) (by omega)
              go_wp2
              go_round
              case rel => exact ⟨k + 1, by omega, by go_num, by rw [HN.out], HK3⟩
              case measure => simp [intOf]; omega
        · exfalso
          have : k = s.size := by omega
          subst this
          have h3 := HK.out
          rw [take_all, HL.out] at h3
          cases h3
    · go_enter Try.func20, Try.ntmps20
      go_wp2
      go_ret
      exact ⟨rfl, rfl⟩
  · have hne : s.toList.isEmpty = true := by
      rw [ByteArray.toList_eq]
      have hl : s.data.toList.length = s.size := rfl
      cases hh : s.data.toList with
      | nil => rfl
      | cons a l => rw [hh] at hl; simp at hl; omega
    go_enter Try.func20, Try.ntmps20
    go_wp2
    go_ret
    exact ⟨rfl, rfl⟩

/-! ### ZZreadLength -/
theorem zzRead_yes (s : ByteArray) (b : Nat) (v : Value) (w : World) (hl : isLenB s.data.toList = true) (hc : w.cell? ⟨b, 0, none⟩ = some v) (hf : w.frozen? ⟨b, 0, none⟩ = false) :
    Calls Try.prog 12 #[.string s, .pointer (some ⟨b, 0, none⟩)] w fun e w' => e = .returned (.bool true) ∧ w' = w.setCell ⟨b, 0, none⟩ (.int .i64 (numv s.data.toList)) := by
  go_enter Try.func12, Try.ntmps12
  go_wp2_with fail
  refine (readLength_yes s b v _ hl hc hf).mono ?_
  rintro e w' ⟨rfl, rfl⟩
  go_wp2_with fail
  go_ret
  exact ⟨rfl, rfl⟩
theorem zzRead_no (s : ByteArray) (p : Value) (w : World) (hl : isLenB s.data.toList = false) :
    Calls Try.prog 12 #[.string s, p] w fun e w' => e = .returned (.bool false) ∧ w' = w := by
  go_enter Try.func12, Try.ntmps12
  go_wp2_with fail
  refine (readLength_no s p _ hl).mono ?_
  rintro e w' ⟨rfl, rfl⟩
  go_wp2_with fail
  go_ret
  exact ⟨rfl, rfl⟩

/-! ### fpb1WithoutLeadingZeros -/
theorem ext_drop (s : ByteArray) (i : Nat) : (s.extract i s.size) = ⟨(s.data.toList.drop i).toArray⟩ := by
  apply Go.WideShapes.bytes_inj
  rw [Lib.extract_data, List.take_of_length_le]
  rw [List.length_drop]; exact Nat.le_refl _

set_option maxHeartbeats 400000 in
theorem strip_any (s : ByteArray) (w : World) (h1 : 1 ≤ s.size) (h2 : s.size ≤ 18) : Calls Try.prog 15 #[.string s] w fun e w' => ∃ r, e = .returned (.string ⟨r.toArray⟩) ∧ Strip s.data.toList r ∧ w' = w := by
  have hb := get_bt s
  go_enter Try.func15, Try.ntmps15
  go_wp2
  go_loop [3] (fun i => ∃ k : Nat, k < s.size ∧ i = .int .i64 k ∧ Hid (∀ j, j < k → s.data.toList[j]? = some 48)) (fun i => s.size - (intOf i).toNat)
  case atStart => exact ⟨0, by omega, rfl, fun j hj => by omega⟩
  case round =>
    obtain ⟨k, hk, rfl, HK⟩ := hrel
    by_cases hlt : k + 1 < s.size
    · by_cases hz : bt s k = 48
      · have hz' : (bt s k == 48) = true := by rw [beq_iff_eq]; exact hz
        have HZ : Hid (s.data.toList[k]? = some 48) := by
          rw [bt_get s k hk] at hz
          unfold Hid
          rw [List.getElem?_eq_getElem hk]
          congr 1
          apply UInt8.toNat_inj.1
          exact Int.ofNat.inj hz
        clear hz
        go_wp2
        go_round
        case rel =>
          refine ⟨k + 1, by omega, by go_num, fun j hj => ?_⟩
          rcases Nat.lt_or_ge j k with h | h
          · exact HK.out j h
          · rw [show j = k from by omega]; exact HZ.out
        case measure => simp [intOf]; omega
      · have hz' : (bt s k == 48) = false := by rw [beq_eq_false_iff_ne]; exact hz
        have HZ : Hid (s.data.toList[k]? ≠ some 48) := by
          intro e
          apply hz
          rw [bt_get s k hk]
          rw [List.getElem?_eq_getElem hk] at e
          rw [Option.some.inj e]; rfl
        clear hz
        go_wp2
        go_ret
        exact ⟨_, by rw [ext_drop]; rfl, ⟨k, rfl, hk, HK.out, fun _ => HZ.out⟩, rfl⟩
    · go_wp2
      go_ret
      exact ⟨_, by rw [ext_drop]; rfl, ⟨k, rfl, hk, HK.out, fun h => absurd h (by exact hlt)⟩, rfl⟩

/-! ### fpb1Decimal -/
theorem addr_add (b p j : Nat) : (⟨b, p, none⟩ : Addr).add j = ⟨b, p + j, none⟩ := by
  unfold Addr.add
  split
  · rename_i h; subst h; rfl
  · rfl

/-- The last cells of the buffer of 20 hold the bytes l. -/
def BufL (l : List UInt8) (arr : Array Value) : Prop :=
  arr.size = 20 ∧ l.length ≤ 20 ∧ ∀ j (hj : j < l.length), arr[20 - l.length + j]? = some (.int .u8 ((l[j]).toNat : Int))

theorem buf_cons {l : List UInt8} {arr : Array Value} (h : BufL l arr) (ht : l.length < 20) (c : UInt8) (x : Int) (hx : x = (c.toNat : Int)) (p : Nat) (hp : p = 20 - l.length - 1) :
    BufL (c :: l) (arr.setIfInBounds p (.int .u8 x)) := by
  subst hx; subst hp
  obtain ⟨hs, _, hc⟩ := h
  refine ⟨by simp [hs], by simp; omega, fun j hj => ?_⟩
  simp only [List.length_cons] at hj ⊢
  cases j with
  | zero =>
    rw [Array.getElem?_setIfInBounds, if_pos (by omega), if_pos (by omega)]
    simp
  | succ j =>
    rw [Array.getElem?_setIfInBounds, if_neg (by omega), show 20 - (l.length + 1) + (j + 1) = 20 - l.length + j from by omega, hc j (by omega)]
    simp

theorem arr35 : Try.prog.arrayLen 35 = 20 := by kernel_rfl
theorem elem35 : Try.prog.elem 35 = 5 := by kernel_rfl
theorem slice_buf (b p : Nat) (hp : p < 20) (W : World) : (Instr.sliceAt 35 (.pointer (some ⟨b,0,none⟩)) (some (.int .i64 (p : Int))) none none).run Try.prog W = .ok (.slice (some ⟨b, p, none⟩) (20 - p) (20 - p)) W := by
  rw [run_sliceAt_array_l W 35 ⟨b,0,none⟩ (by rw [arr35, elem35]; exact Try.underlying35) .i64 p (by omega) (by rw [arr35]; omega), arr35, elem35]
  have hsz : (sizeOf 5).run Try.prog W = .ok 1 W := by simp [go_sem]
  rw [hsz]
  have hne : ¬ (20 : Nat) = p := by omega
  simp [slicedAt, addr_add, hne]

theorem conv_buf (w : World) (p n : Nat) (l : List UInt8) (arr : Array Value) (h : BufL l arr) (hp : p = 20 - l.length) (hn : n = l.length) :
    (convert 22 9 (.slice (some ⟨w.heap.size, p, none⟩) n n)).run Try.prog (w.alloc (.cells arr 35)) = .ok (.string ⟨l.toArray⟩) (w.alloc (.cells arr 35)) := by
  subst hp; subst hn
  refine run_convert_bytes_back _ 22 9 5 ⟨w.heap.size, 20 - l.length, none⟩ l.length l Try.underlying22 Try.underlying5 Try.underlying9 (fun j hj => ?_)
  rw [addr_add, World.cell?_alloc_mark]
  exact h.2.2 j hj

/-- At every round's head: t digits are written, q is what is left of v. -/
def At (v t q : Nat) (arr : Array Value) : Prop :=
  q < 10^(18-t) ∧ q = v / 10^t ∧ (0 < t → 10^(t-1) ≤ v) ∧ BufL (lows v t) arr

theorem at_zero (v : Nat) (arr : Array Value) (hm : v < 10^18) (hs : arr.size = 20) : At v 0 v arr :=
  ⟨by simpa using hm, by simp, by simp, hs, by simp [lows], fun j hj => by simp [lows] at hj⟩

theorem at_lt {v t q : Nat} {arr : Array Value} (h : At v t q arr) (hc : 0 < q) : t < 18 := by
  have := h.1
  rcases Nat.lt_or_ge t 18 with h | h
  · exact h
  · rw [show 18 - t = 0 from by omega] at this; simp at this; omega

theorem at_size {v t q : Nat} {arr : Array Value} (h : At v t q arr) : arr.size = 20 := h.2.2.2.1

theorem at_step {v t q : Nat} {arr : Array Value} (h : At v t q arr) (ht : t < 18) (hc : 0 < q) : At v (t+1) (q/10) (arr.setIfInBounds (20 - t - 1) (.int .u8 (48 + (q : Int) % 10))) := by
  obtain ⟨e1, e2, e3, hb⟩ := h
  refine ⟨?_, ?_, fun h => ?_, ?_⟩
  · rw [show 18 - t = (18-(t+1)) + 1 from by omega, Nat.pow_succ] at e1
    omega
  · rw [e2, Nat.div_div_eq_div_mul, Nat.pow_succ]
  · have hq0 : 0 < v / 10^t := by omega
    simp only [Nat.add_sub_cancel]
    exact (Nat.div_pos_iff.1 hq0).2
  · refine buf_cons hb (by rw [lows_length]; omega) _ _ ?_ _ (by rw [lows_length])
    rw [dig_toNat, e2]
    simp

theorem at_end {v t : Nat} {arr : Array Value} (h : At v t 0 arr) : v < 10^t := by
  have := h.2.1
  rcases Nat.lt_or_ge v (10^t) with h | h
  · exact h
  · have : 0 < v / 10^t := Nat.div_pos h (Nat.pow_pos (by omega))
    omega

theorem at_dec {v t : Nat} {arr : Array Value} (h : At v t 0 arr) (hv : 0 < v) : DecOf v (lows v t) := by
  have h1 := at_end h
  have ht : 0 < t := by
    rcases Nat.eq_zero_or_pos t with h | h
    · subst h; simp at h1; omega
    · exact h
  exact .inr ⟨t, hv, ht, h.2.2.1 ht, h1, rfl⟩

set_option maxHeartbeats 400000 in
theorem decimal_any (v : Nat) (hv : v < 1000000000000000000) (w : World) :
    Calls Try.prog 14 #[.int .i64 (v : Int)] w fun e w' => ∃ r, e = .returned (.string ⟨r.toArray⟩) ∧ DecOf v r ∧ Below w.heap.size w w' := by
  by_cases h0 : v = 0
  · subst h0
    go_enter Try.func14, Try.ntmps14
    go_wp2
    go_ret
    exact ⟨[48], rfl, .inl ⟨rfl, rfl⟩, Below.refl _ _⟩
  · have h0' : ((v : Int) == 0) = false := by rw [beq_eq_false_iff_ne]; omega
    have hpos : 0 < v := by omega
    clear h0
    go_enter Try.func14, Try.ntmps14
    go_wp2
    go_loopw [0, 4] (fun mm i wr => ∃ t : Nat, ∃ q : Nat, ∃ p : Nat, ∃ arr : Array Value, wr = w.alloc (.cells arr 35) ∧ p + t = 20 ∧ q < 1000000000000000000 ∧ At v t q arr ∧ i = .int .i64 p ∧ mm = .int .i64 q)
      (fun mm _ _ => (intOf mm).toNat)
    case atStart => exact ⟨0, v, 20, _, rfl, by omega, hv, at_zero v _ (by omega) rfl, rfl, rfl⟩
    case round =>
      obtain ⟨t, q, p, arr, rfl, hpt, hq, hA, rfl, rfl⟩ := hrel
      by_cases hc : 0 < q
      · have ht2 := at_lt hA hc
        obtain ⟨v0, hv0⟩ : ∃ v, arr[p-1]? = some v := ⟨_, Array.getElem?_eq_getElem (by rw [at_size hA]; omega)⟩
        have hS := at_step hA ht2 hc
        rw [show 20 - t - 1 = p - 1 from by omega] at hS
        have hp1 : 1 ≤ p := by omega
        clear hA
        go_wp2
        go_roundw
        case rel => exact ⟨t+1, q/10, p-1, _, rfl, by omega, by omega, hS, by go_num, by go_num⟩
        case measure => simp [intOf]; omega
      · have hq0 : q = 0 := by omega
        subst hq0
        have ht2 : t ≤ 18 := by
          rcases Nat.lt_or_ge 18 t with h | h
          · have h1 := hA.2.2.1 (by omega)
            have h2 := Nat.pow_le_pow_right (n := 10) (by omega) (show 18 ≤ t - 1 by omega)
            omega
          · exact h
        have ht0 : 0 < t := by
          have h1 := at_end hA
          rcases Nat.eq_zero_or_pos t with h | h
          · subst h; simp at h1; omega
          · exact h
        have hsl := slice_buf w.heap.size p (by omega)
        have hcv := conv_buf w p (20 - p) (lows v t) arr hA.2.2.2 (by rw [lows_length]; omega) (by rw [lows_length]; omega)
        go_wp2
        go_ret
        exact ⟨lows v t, rfl, at_dec hA hpos, by go_grown⟩

/-! ### fpb1ShorterOrSmaller -/
theorem lex_take (a b : List UInt8) (k : Nat) (ha : k < a.length) (hb : k < b.length) (h : a.take k = b.take k) (hne : a[k] ≠ b[k]) : lexB a b = decide (a[k].toNat < b[k].toNat) := by
  induction k generalizing a b with
  | zero =>
    match a, b, ha, hb with
    | x :: a, y :: b, _, _ =>
      simp only [List.getElem_cons_zero] at hne ⊢
      simp [lexB, hne]
  | succ k ih =>
    match a, b, ha, hb with
    | x :: a, y :: b, ha, hb =>
      simp only [List.take_succ_cons, List.cons.injEq] at h
      simp only [List.getElem_cons_succ] at hne ⊢
      rw [← ih a b (by simpa using ha) (by simpa using hb) h.2 hne]
      simp [lexB, h.1]
theorem lex_same (a : List UInt8) : lexB a a = false := by
  induction a with
  | nil => rfl
  | cons x a ih => simp [lexB, ih]
theorem short_part (a b : ByteArray) (k : Nat) (ha : k < a.size) (hl : a.size = b.size) (h : a.data.toList.take k = b.data.toList.take k) (hne : bt a k ≠ bt b k) : shortB a.data.toList b.data.toList = decide (bt a k < bt b k) := by
  have hla : a.data.toList.length = a.size := rfl
  have hlb : b.data.toList.length = b.size := rfl
  rw [bt_get a k ha, bt_get b k (by omega)] at hne ⊢
  unfold shortB
  rw [if_pos (by omega), lex_take _ _ k (by omega) (by omega) h (fun e => hne (by rw [e]))]
  simp only [decide_eq_decide]
  omega
theorem short_same (a b : ByteArray) (h : a.data.toList = b.data.toList) : shortB a.data.toList b.data.toList = false := by
  rw [h]; unfold shortB; rw [if_pos rfl]; exact lex_same _
theorem take_step (a b : ByteArray) (k : Nat) (ha : k < a.size) (hb : k < b.size) (h : a.data.toList.take k = b.data.toList.take k) (he : bt a k = bt b k) : a.data.toList.take (k+1) = b.data.toList.take (k+1) := by
  rw [bt_get a k ha, bt_get b k hb] at he
  rw [take_snoc a k ha, take_snoc b k hb, h]
  congr 2
  exact UInt8.toNat_inj.1 (Int.ofNat.inj he)

set_option maxRecDepth 100000 in
set_option maxHeartbeats 400000 in
theorem shorter_any (a b : ByteArray) (w : World) (ha : a.size ≤ 18) (_hb : b.size ≤ 18) : Calls Try.prog 17 #[.string a, .string b] w fun e w' => e = .returned (.bool (shortB a.data.toList b.data.toList)) ∧ ∃ n, w' = w.drewN n := by
  have hba := get_bt a
  have hbb := get_bt b
  by_cases hl : a.size = b.size
  · have HL : Hid (a.size = b.size) := hl
    have hn : ((a.size : Int) != (b.size : Int)) = false := by simp [hl]
    clear hl
    go_enter Try.func17, Try.ntmps17
    go_wp2
    clear hn
    go_loopw [5] (fun i wr => ∃ k n : Nat, k ≤ a.size ∧ i = .int .i64 k ∧ wr = w.drewN n ∧ Hid (a.data.toList.take k = b.data.toList.take k)) (fun i _ => a.size - (intOf i).toNat)
    case atStart => exact ⟨0, 0, by omega, rfl, rfl, by simp [Hid]⟩
    case round =>
      obtain ⟨k, n, hk, rfl, rfl, HK⟩ := hrel
      by_cases hlt : k < a.size
      · have hkb : k < b.size := by have := HL.out; omega
        have hlt' : (k : Int) < (a.size : Int) := by omega
        have hkb' : (k : Int) < (b.size : Int) := by omega
        have hk0 : (0 : Int) ≤ (k : Int) := by omega
        by_cases he : bt a k = bt b k
        · have he' : (bt a k != bt b k) = false := by simp [he]
          have HS : Hid (a.data.toList.take (k+1) = b.data.toList.take (k+1)) := take_step a b k hlt hkb HK.out he
          clear he
          go_wp2
          go_quiet (fail)
          go_wp2
          go_roundw
          case rel => exact ⟨k + 1, _, by omega, by go_num, rfl, HS⟩
          case measure => simp [intOf]; omega
        · have he' : (bt a k != bt b k) = true := by rw [bne_iff_ne]; exact he
          have HS : Hid (shortB a.data.toList b.data.toList = decide (bt a k < bt b k)) := short_part a b k hlt HL.out HK.out he
          clear he
          go_wp2
          go_quiet (fail)
          go_wp2
          go_quiet (fail)
          go_wp2
          go_ret
          exact ⟨ret_bool HS.out.symm, _, by rw [World.drewN_drewN, World.drewN_drewN]⟩
      · have : k = a.size := by omega
        subst this
        have HS : Hid (shortB a.data.toList b.data.toList = false) := by
          have h1 := HK.out
          rw [take_all, HL.out, take_all] at h1
          exact short_same a b h1
        go_wp2
        go_ret
        exact ⟨ret_bool HS.out.symm, n, rfl⟩
  · have hn : ((a.size : Int) != (b.size : Int)) = true := by rw [bne_iff_ne]; omega
    have HS : Hid (shortB a.data.toList b.data.toList = decide (a.size < b.size)) := by
      unfold Hid shortB
      rw [if_neg (by exact hl)]
      rfl
    go_enter Try.func17, Try.ntmps17
    go_wp2
    all_goals
      go_ret
      exact ⟨ret_bool HS.out.symm, 0, rfl⟩
end Go.Proofs.Qxb6602146a
