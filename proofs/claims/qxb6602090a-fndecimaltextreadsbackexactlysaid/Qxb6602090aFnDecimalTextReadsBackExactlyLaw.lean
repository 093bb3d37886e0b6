/-
  Seat b6602090a: what ZZDecimalText writes, zzReadDecimal reads back.
-/
import Derived.Test.Qxb6602090aNum
import Derived.Test.Qxb6602090aText
namespace Go.Proofs.Qxb6602090a
open Go.RowKit Go.PlainAid

theorem Digs.app {a b : List UInt8} (ha : Digs a) (hb : Digs b) : Digs (a ++ b) := fun c hc => by
  rcases List.mem_append.1 hc with h | h
  · exact ha c h
  · exact hb c h
theorem Digs.rep (n : Nat) : Digs (List.replicate n 48) := fun c hc => by
  have := List.eq_of_mem_replicate hc
  subst this
  decide
theorem Digs.take {a : List UInt8} (ha : Digs a) (n : Nat) : Digs (a.take n) := fun c hc => ha c (List.mem_of_mem_take hc)
theorem Digs.drop {a : List UInt8} (ha : Digs a) (n : Nat) : Digs (a.drop n) := fun c hc => ha c (List.mem_of_mem_drop hc)

theorem canon_low (D : List UInt8) (n : Nat) (hD : 0 < D.length) (hd : Digs D) (h0 : gb D 0 ≠ 48) (hl : gb D (D.length - 1) ≠ 48) (hs : D.length + n ≤ 400000) :
    Canon [48] (List.replicate n 48 ++ D) D (n + 1) 0 where
  hW := by simp
  dW := Digs.rep 1
  dF := (Digs.rep n).app hd
  all := by simp [List.replicate_succ]
  hD := hD
  h0 := h0
  hl := hl
  w0 := fun _ => ⟨rfl, by simp; omega⟩
  fl := fun _ => by
    rw [gb_right (by simp; omega)]
    have e : (List.replicate n (48 : UInt8) ++ D).length - 1 - (List.replicate n (48 : UInt8)).length = D.length - 1 := by simp; omega
    rw [e]; exact hl
  size := by simp; omega

theorem canon_high (D : List UInt8) (n : Nat) (hD : 0 < D.length) (hd : Digs D) (h0 : gb D 0 ≠ 48) (hl : gb D (D.length - 1) ≠ 48) (hs : D.length + n ≤ 400000) :
    Canon (D ++ List.replicate n 48) [] D 0 n where
  hW := by simp; omega
  dW := hd.app (Digs.rep n)
  dF := fun c hc => by cases hc
  all := by simp
  hD := hD
  h0 := h0
  hl := hl
  w0 := fun e => by rw [gb_left hD] at e; exact absurd e h0
  fl := fun h => by simp at h
  size := by simp; omega

theorem canon_mid (D : List UInt8) (n : Nat) (hn0 : 0 < n) (hn : n < D.length) (hd : Digs D) (h0 : gb D 0 ≠ 48) (hl : gb D (D.length - 1) ≠ 48) (hs : D.length ≤ 400000) :
    Canon (D.take n) (D.drop n) D 0 0 where
  hW := by simp; omega
  dW := hd.take n
  dF := hd.drop n
  all := by simp
  hD := by omega
  h0 := h0
  hl := hl
  w0 := fun e => by
    exfalso
    apply h0
    have : gb D 0 = gb (D.take n ++ D.drop n) 0 := by rw [List.take_append_drop]
    rw [this, gb_left (by simp; omega)]
    exact e
  fl := fun _ => by
    have : gb D (D.length - 1) = gb (D.take n ++ D.drop n) (D.length - 1) := by rw [List.take_append_drop]
    rw [this, gb_right (by simp; omega)] at hl
    have e : D.length - 1 - (D.take n).length = (D.drop n).length - 1 := by simp; omega
    rw [e] at hl
    exact hl
  size := by simp; omega

/-- The numeral as textOf writes it. -/
theorem text_num (neg : Bool) (hi lo : List UInt8) (pt : Int) (hD : 0 < (hi ++ lo).length) (hd : Digs (hi ++ lo)) (h0 : gb (hi ++ lo) 0 ≠ 48) (hl : gb (hi ++ lo) ((hi ++ lo).length - 1) ≠ 48)
    (hs : hi.length + lo.length ≤ 200000) (hp0 : -65536 ≤ pt) (hp1 : pt ≤ 65536) :
    ∃ W F lead trail, Canon W F (hi ++ lo) lead trail ∧ textOf neg hi lo pt = (if neg then [45] else []) ++ (W ++ (if F.length = 0 then [] else 46 :: F)) ∧ (W.length : Int) - lead = pt := by
  unfold textOf
  have hL : (hi ++ lo).length = hi.length + lo.length := by simp
  rw [if_neg (by omega)]
  by_cases hp : pt ≤ 0
  · rw [if_pos hp]
    refine ⟨[48], List.replicate (-pt).toNat 48 ++ (hi ++ lo), (-pt).toNat + 1, 0, canon_low _ _ hD hd h0 hl (by omega), ?_, by simp; omega⟩
    have hf : ¬ (List.replicate (-pt).toNat (48 : UInt8) ++ (hi ++ lo)).length = 0 := by rw [List.length_append]; omega
    rw [if_neg hf]
    simp
  · rw [if_neg hp]
    by_cases hq : (hi.length : Int) + lo.length ≤ pt
    · rw [if_pos hq]
      refine ⟨_, [], 0, _, canon_high (hi ++ lo) (pt - (hi.length + lo.length)).toNat hD hd h0 hl (by omega), ?_, by simp; omega⟩
      simp
    · rw [if_neg hq]
      refine ⟨_, _, 0, 0, canon_mid (hi ++ lo) pt.toNat (by omega) (by omega) hd h0 hl (by omega), ?_, by rw [List.length_take]; omega⟩
      have hf : ¬ ((hi ++ lo).drop pt.toNat).length = 0 := by rw [List.length_drop]; omega
      rw [if_neg hf]
      simp

theorem read_text (neg : Bool) (hi lo : List UInt8) (pt : Int) (hD : 0 < (hi ++ lo).length) (hd : Digs (hi ++ lo)) (h0 : gb (hi ++ lo) 0 ≠ 48) (hl : gb (hi ++ lo) ((hi ++ lo).length - 1) ≠ 48)
    (hs : hi.length + lo.length ≤ 200000) (hp0 : -65536 ≤ pt) (hp1 : pt ≤ 65536) (w : World) :
    Calls Try.prog 22 #[.string ⟨(textOf neg hi lo pt).toArray⟩] w fun e w' => e = .returned (.tuple #[.bool neg, .string ⟨(hi ++ lo).toArray⟩, .int .i64 pt, .bool true]) ∧ Below w.heap.size w w' := by
  obtain ⟨W, F, lead, trail, hC, hT, hP⟩ := text_num neg hi lo pt hD hd h0 hl hs hp0 hp1
  rw [hT]
  cases neg with
  | true =>
    have := read_num_n W F _ lead trail hC w
    rw [hP] at this
    exact this
  | false =>
    have := read_num_p W F _ lead trail hC w
    rw [hP] at this
    exact this
end Go.Proofs.Qxb6602090a
