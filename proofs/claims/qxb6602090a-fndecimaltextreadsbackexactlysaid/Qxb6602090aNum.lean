/-
  Seat b6602090a: zzReadDecimal at the numeral of two lists of digits.
-/
import Derived.Test.Qxb6602090aRead
namespace Go.Proofs.Qxb6602090a
open Go.RowKit Go.PlainAid

/-- The byte at place k of a list, as a number; 0 behind its end. -/
def gb (l : List UInt8) (k : Nat) : Int := ((l[k]?.getD 0).toNat : Int)

theorem bt_list (l : List UInt8) (k : Nat) : bt ⟨l.toArray⟩ k = gb l k := by
  unfold bt gb
  have hs : (⟨l.toArray⟩ : ByteArray).size = l.length := by show l.toArray.size = _; simp
  by_cases h : k < l.length
  · rw [dif_pos (by rw [hs]; exact h)]
    rw [List.getElem?_eq_getElem h]
    show (((l.toArray[k]'(by simpa using h)).toNat : Nat) : Int) = _
    simp
  · rw [dif_neg (by rw [hs]; exact h)]
    simp [List.getElem?_eq_none (Nat.le_of_not_lt h)]

theorem size_list (l : List UInt8) : (⟨l.toArray⟩ : ByteArray).size = l.length := by show l.toArray.size = _; simp
theorem ext_list (l : List UInt8) (a z : Nat) : (⟨l.toArray⟩ : ByteArray).extract a z = ⟨((l.take z).drop a).toArray⟩ := by
  rw [ByteArray.extract_mk]
  simp [List.drop_take]
theorem app_list (a b : List UInt8) : (⟨a.toArray⟩ : ByteArray) ++ (⟨b.toArray⟩ : ByteArray) = ⟨(a ++ b).toArray⟩ := by
  apply Go.WideShapes.bytes_inj
  simp [ByteArray.data_append]

theorem gb_left {a b : List UInt8} {k : Nat} (h : k < a.length) : gb (a ++ b) k = gb a k := by
  unfold gb; rw [List.getElem?_append_left h]
theorem gb_right {a b : List UInt8} {k : Nat} (h : a.length ≤ k) : gb (a ++ b) k = gb b (k - a.length) := by
  unfold gb; rw [List.getElem?_append_right h]
theorem gb_cons (x : UInt8) (l : List UInt8) (k : Nat) : gb (x :: l) (k + 1) = gb l k := by
  unfold gb; simp
theorem gb_zero (x : UInt8) (l : List UInt8) : gb (x :: l) 0 = x.toNat := by
  unfold gb; simp
theorem gb_mem {l : List UInt8} {p : Int → Prop} (h : ∀ c ∈ l, p c.toNat) {k : Nat} (hk : k < l.length) : p (gb l k) := by
  unfold gb
  rw [List.getElem?_eq_getElem hk]
  exact h _ (List.getElem_mem hk)
theorem gb_rep {n k : Nat} (h : k < n) : gb (List.replicate n 48) k = 48 := by
  unfold gb
  rw [List.getElem?_replicate, if_pos h]; rfl

/-- A list of digits. -/
def Digs (l : List UInt8) : Prop := ∀ c ∈ l, 48 ≤ (c.toNat : Int) ∧ (c.toNat : Int) ≤ 57
theorem Digs.at {l : List UInt8} (h : Digs l) {k : Nat} (hk : k < l.length) : 48 ≤ gb l k ∧ gb l k ≤ 57 := gb_mem (p := fun x => 48 ≤ x ∧ x ≤ 57) h hk

/-- W, F: the whole part and the fraction; D: the digits that signify. -/
structure Canon (W F D : List UInt8) (lead trail : Nat) : Prop where
  hW : 0 < W.length
  dW : Digs W
  dF : Digs F
  all : W ++ F = List.replicate lead 48 ++ D ++ List.replicate trail 48
  hD : 0 < D.length
  h0 : gb D 0 ≠ 48
  hl : gb D (D.length - 1) ≠ 48
  w0 : gb W 0 = 48 → W.length = 1 ∧ 0 < F.length
  fl : 0 < F.length → gb F (F.length - 1) ≠ 48
  size : W.length + F.length ≤ 500000

theorem Canon.len {W F D : List UInt8} {lead trail : Nat} (h : Canon W F D lead trail) : W.length + F.length = lead + D.length + trail := by
  have := congrArg List.length h.all
  simp only [List.length_append, List.length_replicate] at this
  exact this

theorem Canon.lead48 {W F D : List UInt8} {lead trail : Nat} (h : Canon W F D lead trail) (k : Nat) (hk : k < lead) : gb (W ++ F) k = 48 := by
  rw [h.all, List.append_assoc, gb_left (by simpa using hk), gb_rep hk]
theorem Canon.leadne {W F D : List UInt8} {lead trail : Nat} (h : Canon W F D lead trail) : gb (W ++ F) lead ≠ 48 := by
  have := h.hD
  rw [h.all, List.append_assoc, gb_right (by simp), gb_left (by simp; omega)]
  simpa using h.h0
theorem Canon.trail48 {W F D : List UInt8} {lead trail : Nat} (h : Canon W F D lead trail) (k : Nat) (hk : lead + D.length ≤ k) (hk2 : k < (W ++ F).length) : gb (W ++ F) k = 48 := by
  have hl := h.len
  rw [List.length_append] at hk2
  rw [h.all, gb_right (by simpa using hk), gb_rep]
  simp; omega
theorem Canon.trailne {W F D : List UInt8} {lead trail : Nat} (h : Canon W F D lead trail) : gb (W ++ F) (lead + D.length - 1) ≠ 48 := by
  have := h.hD
  rw [h.all, List.append_assoc, gb_right (by simp; omega), gb_left (by simp; omega)]
  have e : lead + D.length - 1 - (List.replicate lead (48 : UInt8)).length = D.length - 1 := by simp; omega
  rw [e]
  exact h.hl
theorem Canon.ext {W F D : List UInt8} {lead trail : Nat} (h : Canon W F D lead trail) : (((W ++ F).take (lead + D.length)).drop lead) = D := by
  rw [h.all, List.take_append_of_le_length (by simp), List.drop_take]
  simp

theorem read_num_p (W F D : List UInt8) (lead trail : Nat) (h : Canon W F D lead trail) (w : World) :
    Calls Try.prog 22 #[.string ⟨(W ++ (if F.length = 0 then [] else 46 :: F)).toArray⟩] w fun e w' => e = .returned (.tuple #[.bool false, .string ⟨D.toArray⟩, .int .i64 ((W.length : Int) - lead), .bool true]) ∧ Below w.heap.size w w' := by
  have hW := h.hW
  have hD := h.hD
  have hlen := h.len
  have hsz := h.size
  by_cases hF : F.length = 0
  · have hF0 : F = [] := List.eq_nil_of_length_eq_zero hF
    subst hF0
    rw [if_pos hF, List.append_nil]
    simp only [List.length_nil, Nat.add_zero] at hlen hsz
    have := read_pA ⟨W.toArray⟩ ⟨W.toArray⟩ ⟨W.toArray⟩ W.length lead (lead + D.length) (by rw [size_list]; omega) hW (by rw [size_list]; omega) (by rw [size_list]; omega)
      (fun k _ hk => by rw [bt_list]; exact h.dW.at hk) (by rw [ext_list]; simp) (by rw [size_list]; exact hW) (by rw [size_list]; omega)
      (by rw [bt_list]; intro e; have := (h.w0 e).2; simp at this) (by rw [app_list W []]; simp)
      (by omega) (by rw [size_list]; omega) (by rw [size_list]; omega)
      (fun k hk => by rw [bt_list]; have := h.lead48 k hk; simpa using this) (by rw [bt_list]; have := h.leadne; simpa using this)
      (fun k hk hk2 => by rw [size_list] at hk2; rw [bt_list]; have := h.trail48 k hk (by simpa using hk2); simpa using this) (by rw [bt_list]; have := h.trailne; simpa using this) w
    rw [ext_list, size_list] at this
    have hx := h.ext
    rw [List.append_nil] at hx
    rw [hx] at this
    exact this
  · rw [if_neg hF]
    have hT : (W ++ 46 :: F).length = W.length + F.length + 1 := by simp; omega
    have := read_pB ⟨(W ++ 46 :: F).toArray⟩ ⟨W.toArray⟩ ⟨F.toArray⟩ ⟨(W ++ F).toArray⟩ W.length lead (lead + D.length) (by rw [size_list, hT]; omega) hW (by rw [size_list, hT]; omega)
      (fun k _ hk => by rw [bt_list, gb_left hk]; exact h.dW.at hk) (by rw [ext_list]; simp) (by rw [size_list]; exact hW) (by rw [size_list]; omega)
      (by rw [bt_list, gb_right (Nat.le_refl _), Nat.sub_self, gb_zero]; rfl) (by rw [size_list, hT]; omega)
      (fun k hk hk2 => by
        rw [size_list, hT] at hk2
        obtain ⟨j, rfl⟩ : ∃ j, k = W.length + (j + 1) := ⟨k - W.length - 1, by omega⟩
        rw [bt_list, gb_right (by omega), Nat.add_sub_cancel_left, gb_cons]
        exact h.dF.at (by omega))
      (by rw [ext_list, size_list, List.take_of_length_le (Nat.le_refl _), List.drop_append]; simp)
      (by rw [size_list]; omega) (by rw [size_list]; omega) (by rw [bt_list, size_list]; exact h.fl (by omega))
      (by rw [bt_list, size_list]; exact fun e => (h.w0 e).1) (app_list W F)
      (by omega) (by rw [size_list, List.length_append]; omega) (by rw [size_list, List.length_append]; omega)
      (fun k hk => by rw [bt_list]; exact h.lead48 k hk) (by rw [bt_list]; exact h.leadne)
      (fun k hk hk2 => by rw [size_list] at hk2; rw [bt_list]; exact h.trail48 k hk hk2) (by rw [bt_list]; exact h.trailne) w
    rw [ext_list, size_list, h.ext] at this
    exact this

theorem read_num_n (W F D : List UInt8) (lead trail : Nat) (h : Canon W F D lead trail) (w : World) :
    Calls Try.prog 22 #[.string ⟨(45 :: (W ++ (if F.length = 0 then [] else 46 :: F))).toArray⟩] w fun e w' => e = .returned (.tuple #[.bool true, .string ⟨D.toArray⟩, .int .i64 ((W.length : Int) - lead), .bool true]) ∧ Below w.heap.size w w' := by
  have hW := h.hW
  have hD := h.hD
  have hlen := h.len
  have hsz := h.size
  by_cases hF : F.length = 0
  · have hF0 : F = [] := List.eq_nil_of_length_eq_zero hF
    subst hF0
    rw [if_pos hF, List.append_nil]
    simp only [List.length_nil, Nat.add_zero] at hlen hsz
    have := read_nA ⟨(45 :: W).toArray⟩ ⟨W.toArray⟩ ⟨W.toArray⟩ (W.length + 1) lead (lead + D.length) (by rw [size_list]; simp; omega) (by omega) (by rw [size_list]; simp) (by rw [size_list]; simp)
      (fun k hk0 hk => by
        obtain ⟨j, rfl⟩ : ∃ j, k = j + 1 := ⟨k - 1, by omega⟩
        rw [bt_list, gb_cons]; exact h.dW.at (by omega)) (by rw [bt_list, gb_zero]; rfl) (by rw [ext_list]; simp) (by rw [size_list]; exact hW) (by rw [size_list]; omega)
      (by rw [bt_list]; intro e; have := (h.w0 e).2; simp at this) (by rw [app_list W []]; simp)
      (by omega) (by rw [size_list]; omega) (by rw [size_list]; omega)
      (fun k hk => by rw [bt_list]; have := h.lead48 k hk; simpa using this) (by rw [bt_list]; have := h.leadne; simpa using this)
      (fun k hk hk2 => by rw [size_list] at hk2; rw [bt_list]; have := h.trail48 k hk (by simpa using hk2); simpa using this) (by rw [bt_list]; have := h.trailne; simpa using this) w
    rw [ext_list, size_list] at this
    have hx := h.ext
    rw [List.append_nil] at hx
    rw [hx] at this
    exact this
  · rw [if_neg hF]
    have hT : (45 :: (W ++ 46 :: F)).length = W.length + F.length + 2 := by simp; omega
    have := read_nB ⟨(45 :: (W ++ 46 :: F)).toArray⟩ ⟨W.toArray⟩ ⟨F.toArray⟩ ⟨(W ++ F).toArray⟩ (W.length + 1) lead (lead + D.length) (by rw [size_list, hT]; omega) (by omega) (by rw [size_list, hT]; omega)
      (fun k hk0 hk => by
        obtain ⟨j, rfl⟩ : ∃ j, k = j + 1 := ⟨k - 1, by omega⟩
        rw [bt_list, gb_cons, gb_left (by omega)]; exact h.dW.at (by omega)) (by rw [bt_list, gb_zero]; rfl) (by rw [ext_list]; simp) (by rw [size_list]; exact hW) (by rw [size_list]; omega)
      (by rw [bt_list, gb_cons, gb_right (Nat.le_refl _), Nat.sub_self, gb_zero]; rfl) (by rw [size_list, hT]; omega)
      (fun k hk hk2 => by
        rw [size_list, hT] at hk2
        obtain ⟨j, rfl⟩ : ∃ j, k = (W.length + (j + 1)) + 1 := ⟨k - W.length - 2, by omega⟩
        rw [bt_list, gb_cons, gb_right (by omega), Nat.add_sub_cancel_left, gb_cons]
        exact h.dF.at (by omega))
      (by rw [ext_list, size_list, List.take_of_length_le (Nat.le_refl _), List.drop_succ_cons, List.drop_append]; simp)
      (by rw [size_list]; omega) (by rw [size_list]; omega) (by rw [bt_list, size_list]; exact h.fl (by omega))
      (by rw [bt_list, size_list]; exact fun e => (h.w0 e).1) (app_list W F)
      (by omega) (by rw [size_list, List.length_append]; omega) (by rw [size_list, List.length_append]; omega)
      (fun k hk => by rw [bt_list]; exact h.lead48 k hk) (by rw [bt_list]; exact h.leadne)
      (fun k hk hk2 => by rw [size_list] at hk2; rw [bt_list]; exact h.trail48 k hk hk2) (by rw [bt_list]; exact h.trailne) w
    rw [ext_list, size_list, h.ext] at this
    exact this
end Go.Proofs.Qxb6602090a
