/-
  Seat b6602090a: the walk of FnDecimalTextReadsBackExactly (5).
-/
import Derived.Test.Qxb6602090aFnDecimalTextReadsBackExactlyLaw
namespace Go.Proofs.Qxb6602090a.fnDecimalTextReadsBackExactly
open Go.PlainAid
open Go.ChangeShapes Go.WideShapes Go.ChangeAt Go.RowKit

theorem bt_data (s : ByteArray) (k : Nat) : bt s k = gb s.data.toList k := by
  have := bt_list s.data.toList k
  exact this
theorem ret_bool {a b : Bool} (h : a = b) : Ending.returned (.bool a) = .returned (.bool b) := by rw [h]
theorem digs_of (d : ByteArray) (h : ∀ j, j < d.size → 48 ≤ bt d j ∧ bt d j ≤ 57) : Digs d.data.toList := by
  intro c hc
  obtain ⟨i, hi, rfl⟩ := List.getElem_of_mem hc
  have := h i hi
  rw [bt_data] at this
  unfold gb at this
  rw [List.getElem?_eq_getElem hi] at this
  exact this

set_option maxRecDepth 100000 in
set_option maxHeartbeats 2000000 in
theorem walk_in (a0 : Bool) (a1 a2 d : ByteArray) (a3 : Int) (h1 : a1.size ≤ 65536) (h2 : a2.size ≤ 65536) (hp0 : -65536 ≤ a3) (hp1 : a3 ≤ 65536) (hd : a1 ++ a2 = d) (w : World) :
    Calls Try.prog 5 #[.bool a0, .string a1, .string a2, .int .i64 a3] w fun e w' => e = .returned (.bool true) ∧ Below w.heap.size w w' := by
  have hb := get_bt d
  have HDS : Hid (d.size = a1.size + a2.size) := by rw [← hd]; simp [Hid]
  have hds2 : d.size ≤ 131072 := by have := HDS.out; omega
  have HL : Hid (d.data.toList = a1.data.toList ++ a2.data.toList) := by rw [← hd]; simp [Hid, ByteArray.data_append]
  have x1 : ¬ (1048576 : Int) < (a1.size : Int) := by omega
  have y1 : decide ((65536 : Int) < (a1.size : Int)) = false := by simp; omega
  have y2 : decide ((65536 : Int) < (a2.size : Int)) = false := by simp; omega
  have y3 : decide (a3 < (-65536 : Int)) = false := by simp; omega
  have y4 : decide ((65536 : Int) < a3) = false := by simp; omega
  go_enter Try.func5, Try.ntmps5
  go_wp2
  clear y1 y2 y3 y4 x1
  go_loop [10] (fun i => ∃ k : Nat, k ≤ d.size ∧ i = .int .i64 k ∧ Hid (∀ j, j < k → 48 ≤ bt d j ∧ bt d j ≤ 57)) (fun i => d.size - (intOf i).toNat)
  case atStart => exact ⟨0, by omega, rfl, fun j hj => by omega⟩
  case round =>
    obtain ⟨k, hk, rfl, HK⟩ := hrel
    by_cases hlt : k < d.size
    · have hbl := bt_le d k
      have hb0 := bt_nonneg d k
      by_cases c1 : 48 ≤ bt d k
      · by_cases c2 : bt d k ≤ 57
        · go_wp2
          go_round
          case rel =>
            refine ⟨k + 1, by omega, by go_num, fun j hj => ?_⟩
            rcases Nat.lt_or_ge j k with h | h
            · exact HK.out j h
            · have : j = k := by omega
              subst this
              exact ⟨c1, c2⟩
          case measure => simp [intOf]; omega
        · go_wp2
          go_ret
          exact ⟨rfl, Below.refl _ _⟩
      · have c1' : decide (48 ≤ bt d k) = false := by simp; omega
        go_wp2
        go_ret
        exact ⟨rfl, Below.refl _ _⟩
    · have : k = d.size := by omega
      subst this
      clear hlt hk
      have hdig := digs_of d HK.out
      by_cases hz : d.size = 0
      · have hz0 : a1.size + a2.size = 0 := by have := HDS.out; omega
        have HT := text_zero a0 a1 a2 a3 hz0
        have HTT : Hid (textOf a0 a1.data.toList a2.data.toList a3 = [48]) := HT
        clear HT hz0
        go_wp2_with fail
        refine (decimalText_any a0 a1 a2 a3 _ h1 h2 hp0 hp1).mono ?_
        rintro e w1 ⟨rfl, hB⟩
        rw [HTT.out]
        go_wp2_with fail
        go_ret
        exact ⟨rfl, hB⟩
      · have hz1 : decide ((0 : Int) < (d.size : Int)) = true := decide_eq_true (by omega)
        have hz2 : (((d.size : Int)) == 0) = false := by rw [beq_eq_false_iff_ne]; omega
        have hz3 : 0 < d.size := by omega
        clear hz
        by_cases f0 : bt d 0 = 48
        · go_wp2_with fail
          go_ret
          exact ⟨rfl, Below.refl _ _⟩
        · have f0' : (bt d 0 == 48) = false := by rw [beq_eq_false_iff_ne]; exact f0
          by_cases f1 : bt d (d.size - 1) = 48
          · have F0 : Hid (¬ bt d 0 = 48) := f0
            clear f0
            go_wp2_with fail
            go_ret
            exact ⟨rfl, Below.refl _ _⟩
          · have f1' : (bt d (d.size - 1) == 48) = false := by rw [beq_eq_false_iff_ne]; exact f1
            have HRT := fun w => read_text a0 a1.data.toList a2.data.toList a3 (by rw [← HL.out]; exact hz3) (by rw [← HL.out]; exact hdig) (by rw [← HL.out, ← bt_data]; exact f0) (by rw [← HL.out, ← bt_data]; exact f1) (by have : a1.data.toList.length = a1.size := rfl; have : a2.data.toList.length = a2.size := rfl; omega) hp0 hp1 w
            have F0 : Hid (¬ bt d 0 = 48) := f0
            have F1 : Hid (¬ bt d (d.size - 1) = 48) := f1
            clear f0 f1
            go_wp2_with fail
            refine (decimalText_any a0 a1 a2 a3 _ h1 h2 hp0 hp1).mono ?_
            rintro e w1 ⟨rfl, hB⟩
            go_wp2_with fail
            refine (HRT _).mono ?_
            rintro e w2 ⟨rfl, hB2⟩
            have hL : a1.data.toList ++ a2.data.toList = d.toList := by rw [ByteArray.toList_eq, HL.out]
            go_wp2_with fail
            go_ret
            exact ⟨rfl, hB.trans (hB2.mono hB.size)⟩

theorem walk (a0 : Bool) (a1 : ByteArray) (a2 : ByteArray) (a3 : Int) (w1 : a1.size ≤ maxLen) (w2 : a2.size ≤ maxLen) (w : World) :
    Calls Try.prog 5 #[.bool a0, .string a1, .string a2, .int .i64 a3] w fun e w' => e = .returned (.bool true) ∧ Below w.heap.size w w' := by
  unfold maxLen at w1 w2
  by_cases h1 : a1.size ≤ 65536
  · by_cases h2 : a2.size ≤ 65536
    · by_cases h3 : a3 < -65536
      · go_enter Try.func5, Try.ntmps5
        go_wp2
        go_ret
        exact ⟨rfl, Below.refl _ _⟩
      · by_cases h4 : 65536 < a3
        · go_enter Try.func5, Try.ntmps5
          go_wp2
          go_ret
          exact ⟨rfl, Below.refl _ _⟩
        · exact walk_in a0 a1 a2 _ a3 h1 h2 (by omega) (by omega) rfl w
    · by_cases h3 : a2.size ≤ 1048576
      · by_cases h4 : a1.size + a2.size ≤ 1048576
        · go_enter Try.func5, Try.ntmps5
          go_wp2
          go_ret
          exact ⟨rfl, Below.refl _ _⟩
        · go_enter Try.func5, Try.ntmps5
          go_wp2
          go_ret
          exact ⟨rfl, Below.refl _ _⟩
      · go_enter Try.func5, Try.ntmps5
        go_wp2
        go_ret
        exact ⟨rfl, Below.refl _ _⟩
  · by_cases h3 : a1.size ≤ 1048576
    · by_cases h5 : a2.size ≤ 1048576
      · by_cases h4 : a1.size + a2.size ≤ 1048576
        · go_enter Try.func5, Try.ntmps5
          go_wp2
          go_ret
          exact ⟨rfl, Below.refl _ _⟩
        · go_enter Try.func5, Try.ntmps5
          go_wp2
          go_ret
          exact ⟨rfl, Below.refl _ _⟩
      · go_enter Try.func5, Try.ntmps5
        go_wp2
        go_ret
        exact ⟨rfl, Below.refl _ _⟩
    · go_enter Try.func5, Try.ntmps5
      go_wp2
      go_ret
      exact ⟨rfl, Below.refl _ _⟩
end Go.Proofs.Qxb6602090a.fnDecimalTextReadsBackExactly
