/-
  Seat b6602090a: writeZeros (35), writeDigits (36), writeText (25), ZZDecimalText (21).
-/
import Derived.Test.Qxb6602090aBuilder
import Derived.PlainAid
import Derived.WalkSpells
import Derived.WalkLawsBesides
namespace Go.Proofs.Qxb6602090a
open Go.RowKit

/-- The builder in block b holds the bytes l. -/
def Bld (B b : Nat) (l : List UInt8) (w : World) : Prop := Lib.IsBuilderF 64 5 B b (Lib.byteCells l) w
/-- Behind a writer: the builder holds l; below B, and in every block that is neither the builder's nor a row of bytes, nothing has turned. -/
def Wrote (B b : Nat) (l : List UInt8) (w w' : World) : Prop := Bld B b l w' ∧ Below B w w' ∧ Lib.OthersKept 5 (some b) w w'

theorem Bld.size {B b : Nat} {l : List UInt8} {w : World} (h : Bld B b l w) : B ≤ w.heap.size := by
  have : ∀ p, Lib.BuilderAtF 64 5 B b p (Lib.byteCells l) w → B ≤ w.heap.size := by
    intro p h
    obtain ⟨hB, v, hb, _⟩ := h
    rcases Nat.lt_or_ge b w.heap.size with h' | h'
    · omega
    · simp [Array.getElem?_eq_none h'] at hb
  rcases h with h | h
  · exact this _ h
  · exact this _ h

theorem Wrote.refl {B b : Nat} {l : List UInt8} {w : World} (h : Bld B b l w) : Wrote B b l w w := ⟨h, Below.refl _ _, Lib.OthersKept.refl _ _ _⟩
theorem Wrote.trans {B b : Nat} {l l' : List UInt8} {w w' w'' : World} (h : Wrote B b l w w') (k : Wrote B b l' w' w'') : Wrote B b l' w w'' :=
  ⟨k.1, h.2.1.trans k.2.1, h.2.2.trans k.2.2⟩

theorem writeByte_any (B b : Nat) (l : List UInt8) (u : UInt8) (c : Int) (hc : c = (u.toNat : Int)) (w : World) (h : Bld B b l w) (hlen : l.length < 1000000) :
    Calls Try.prog 33 #[.pointer (some ⟨b, 0, none⟩), .int .u8 c] w fun e w' => e = .returned .nilIface ∧ Wrote B b (l ++ [u]) w w' := by
  subst hc
  refine (writeByte_k B b (Lib.byteCells l) _ w h (by rw [Lib.byteCells_length]; omega) h.size).mono ?_
  rintro e w' ⟨rfl, h1, h2, h3⟩
  refine ⟨rfl, .inr ?_, h2, h3⟩
  rw [Lib.byteCells_append]
  exact h1

theorem writeString_any (B b : Nat) (l : List UInt8) (s : ByteArray) (w : World) (h : Bld B b l w) (hlen : l.length + s.size < 1000000) :
    Calls Try.prog 34 #[.pointer (some ⟨b, 0, none⟩), .string s] w fun e w' => e = .returned (.tuple #[.int .i64 s.size, .nilIface]) ∧ Wrote B b (l ++ s.data.toList) w w' := by
  refine (writeString_k B b (Lib.byteCells l) s w h (by rw [Lib.byteCells_length]; omega) h.size).mono ?_
  rintro e w' ⟨rfl, h1, h2, h3⟩
  refine ⟨rfl, .inr ?_, h2, h3⟩
  rw [Lib.byteCells_append, ← Lib.strCells_eq]
  exact h1

set_option maxHeartbeats 400000 in
theorem writeZeros_any (B b : Nat) (l : List UInt8) (n : Nat) (w : World) (h : Bld B b l w) (hlen : l.length + n < 1000000) :
    Calls Try.prog 35 #[.pointer (some ⟨b, 0, none⟩), .int .i64 n] w fun e w' => e = .returned (.tuple #[]) ∧ Wrote B b (l ++ List.replicate n 48) w w' := by
  go_enter Try.func35, Try.ntmps35
  go_wp2
  go_loopw [5] (fun i wr => ∃ k : Nat, k ≤ n ∧ i = .int .i64 k ∧ Wrote B b (l ++ List.replicate k 48) w wr) (fun i _ => n - (intOf i).toNat)
  case atStart => exact ⟨0, by omega, rfl, by simpa using Wrote.refl h⟩
  case round =>
    obtain ⟨k, hk, rfl, hW⟩ := hrel
    by_cases hlt : k < n
    · go_wp2_with fail
      refine (writeByte_any B b (l ++ List.replicate k 48) 48 48 rfl _ hW.1 (by simp; omega)).mono ?_
      rintro e w1 ⟨rfl, hW1⟩
      go_wp2_with fail
      go_roundw
      case rel =>
        refine ⟨k+1, by omega, by go_num, ?_⟩
        have := hW.trans hW1
        rwa [List.append_assoc, ← List.replicate_succ'] at this
      case measure => simp [intOf]; omega
    · have : k = n := by omega
      subst this
      go_wp2_with fail
      go_end0
      exact ⟨rfl, hW⟩

theorem kept_block {b k : Nat} {w w' : World} {c : Array Value} (h : Lib.OthersKept 5 (some b) w w') (hk : w.heap[k]? = some (.cells c 66 (0, 0))) (hb : b ≠ k) : w'.heap[k]? = some (.cells c 66 (0, 0)) :=
  h k _ hk (fun e => hb (Option.some.inj e).symm) (fun c' fz e => by cases e)

theorem Bld.lt {B b : Nat} {l : List UInt8} {w : World} (h : Bld B b l w) : b < w.heap.size := by
  have : ∀ p, Lib.BuilderAtF 64 5 B b p (Lib.byteCells l) w → b < w.heap.size := by
    intro p h
    obtain ⟨hB, v, hb, _⟩ := h
    rcases Nat.lt_or_ge b w.heap.size with h' | h'
    · omega
    · simp [Array.getElem?_eq_none h'] at hb
  rcases h with h | h
  · exact this _ h
  · exact this _ h

theorem Bld.alloc {B b : Nat} {l : List UInt8} {w : World} (h : Bld B b l w) (o : Obj) : Bld B b l (w.alloc o) := by
  have hlt := h.lt
  have : ∀ p, Lib.BuilderAtF 64 5 B b p (Lib.byteCells l) w → Lib.BuilderAtF 64 5 B b p (Lib.byteCells l) (w.alloc o) := by
    intro p h
    obtain ⟨hB, v, hb, hown, hne⟩ := h
    exact ⟨hB, v, (Lib.alloc_old w o b hlt).trans hb, hown.alloc o, hne⟩
  rcases h with h | h
  · exact .inl (this _ h)
  · exact .inr (this _ h)

theorem Wrote.ofAlloc {B b : Nat} {l : List UInt8} {w w' : World} {o : Obj} (hs : B ≤ w.heap.size) (h : Wrote B b l (w.alloc o) w') : Wrote B b l w w' :=
  ⟨h.1, ((Below.refl B w).alloc hs o).trans h.2.1, ((Lib.OthersKept.refl 5 (some b) w).alloc o).trans h.2.2⟩

theorem new_heap (w : World) (o : Obj) : (w.alloc o).heap[w.heap.size]? = some o := by
  show (w.heap.push o)[w.heap.size]? = _
  simp

/-- The digits from 'a' up to 'z' of the two parts. -/
def cutDigits (hi lo : List UInt8) (a z : Nat) : List UInt8 := ((hi ++ lo).take z).drop a

theorem ext_data (s : ByteArray) (a z : Nat) : (s.extract a z).data.toList = (s.data.toList.take z).drop a := by
  rw [Lib.extract_data, List.drop_take]

theorem cut_both (hi lo : ByteArray) {a z : Nat} (h1 : a < hi.size) (h2 : hi.size < z) : (hi.extract a hi.size).data.toList ++ (lo.extract 0 (z - hi.size)).data.toList = cutDigits hi.data.toList lo.data.toList a z := by
  unfold cutDigits
  have hl : hi.data.toList.length = hi.size := rfl
  rw [ext_data, ext_data, List.take_append, List.drop_append, List.drop_zero, hl, List.take_of_length_le (i := z) (l := hi.data.toList) (by omega), List.take_of_length_le (i := hi.size) (l := hi.data.toList) (by omega)]
  rw [show a - hi.data.toList.length = 0 from by omega, List.drop_zero]
theorem cut_left (hi lo : ByteArray) {a z : Nat} (h2 : z ≤ hi.size) : (hi.extract a z).data.toList = cutDigits hi.data.toList lo.data.toList a z := by
  unfold cutDigits
  have hl : hi.data.toList.length = hi.size := rfl
  rw [ext_data, List.take_append_of_le_length (by omega)]
theorem cut_right (hi lo : ByteArray) {a z : Nat} (h2 : hi.size ≤ a) : (lo.extract (a - hi.size) (z - hi.size)).data.toList = cutDigits hi.data.toList lo.data.toList a z := by
  unfold cutDigits
  have hl : hi.data.toList.length = hi.size := rfl
  rw [ext_data, List.take_append, List.drop_append, hl, show List.drop a (List.take z hi.data.toList) = [] from List.drop_eq_nil_of_le (by simp; omega), List.nil_append, List.length_take, hl]
  by_cases hz : hi.size ≤ z
  · rw [Nat.min_eq_right hz]
  · rw [show z - hi.size = 0 from by omega]; simp

set_option maxHeartbeats 400000 in
theorem writeDigits_any (B b : Nat) (l : List UInt8) (neg : Bool) (hi lo : ByteArray) (pt : Int) (a z : Nat) (w : World) (h : Bld B b l w) (haz : a ≤ z) (hz : z ≤ hi.size + lo.size) (hlen : l.length + hi.size + lo.size < 1000000) :
    Calls Try.prog 36 #[.agg #[.bool neg, .string hi, .string lo, .int .i64 pt], .pointer (some ⟨b, 0, none⟩), .int .i64 a, .int .i64 z] w fun e w' => e = .returned (.tuple #[]) ∧ Wrote B b (l ++ cutDigits hi.data.toList lo.data.toList a z) w w' := by
  have hC := new_heap w (.cells #[.bool neg, .string hi, .string lo, .int .i64 pt] 66)
  have hA := h.alloc (.cells #[.bool neg, .string hi, .string lo, .int .i64 pt] 66)
  have hne : b ≠ w.heap.size := by have := h.lt; omega
  have hS := h.size
  by_cases h1 : a < hi.size
  · by_cases h2 : hi.size < z
    · have hmin : min (z : Int) (hi.size : Int) = (hi.size : Int) := by omega
      have hmax : max ((a : Int) - (hi.size : Int)) 0 = 0 := by omega
      have HC : Hid ((w.alloc (.cells #[.bool neg, .string hi, .string lo, .int .i64 pt] 66)).heap[w.heap.size]? = some (.cells #[.bool neg, .string hi, .string lo, .int .i64 pt] 66 (0, 0))) := hC
      clear hC
      go_enter Try.func36, Try.ntmps36
      go_wp2_with fail
      refine (writeString_any B b l (hi.extract a hi.size) _ hA (by simp; omega)).mono ?_
      rintro e w1 ⟨rfl, hW⟩
      have hb1 := kept_block hW.2.2 HC.out hne
      have c2 : w1.cell? ⟨w.heap.size, 2, none⟩ = some (.string lo) := by rw [Lib.cell_of_heap hb1]; rfl
      go_wp2_with fail
      refine (writeString_any B b _ (lo.extract 0 (z - hi.size)) _ hW.1 (by simp; omega)).mono ?_
      rintro e w2 ⟨rfl, hW2⟩
      go_wp2_with fail
      go_end0
      refine ⟨rfl, Wrote.ofAlloc hS (o := .cells #[.bool neg, .string hi, .string lo, .int .i64 pt] 66) ?_⟩
      have := hW.trans hW2
      rwa [List.append_assoc, cut_both _ _ h1 h2] at this
    · have hmin : min (z : Int) (hi.size : Int) = (z : Int) := by omega
      go_enter Try.func36, Try.ntmps36
      go_wp2_with fail
      refine (writeString_any B b l (hi.extract a z) _ hA (by simp; omega)).mono ?_
      rintro e w1 ⟨rfl, hW⟩
      go_wp2_with fail
      go_end0
      refine ⟨rfl, Wrote.ofAlloc hS (o := .cells #[.bool neg, .string hi, .string lo, .int .i64 pt] 66) ?_⟩
      rwa [cut_left _ _ (by omega)] at hW
  · by_cases h2 : hi.size < z
    · have hmax : max ((a : Int) - (hi.size : Int)) 0 = ((a - hi.size : Nat) : Int) := by omega
      go_enter Try.func36, Try.ntmps36
      go_wp2_with fail
      refine (writeString_any B b l (lo.extract (a - hi.size) (z - hi.size)) _ hA (by simp; omega)).mono ?_
      rintro e w1 ⟨rfl, hW⟩
      go_wp2_with fail
      go_end0
      refine ⟨rfl, Wrote.ofAlloc hS (o := .cells #[.bool neg, .string hi, .string lo, .int .i64 pt] 66) ?_⟩
      rwa [cut_right _ _ (by omega)] at hW
    · go_enter Try.func36, Try.ntmps36
      go_wp2_with fail
      go_end0
      refine ⟨rfl, Wrote.ofAlloc hS (o := .cells #[.bool neg, .string hi, .string lo, .int .i64 pt] 66) ?_⟩
      have e : cutDigits hi.data.toList lo.data.toList a z = [] := by
        unfold cutDigits
        apply List.drop_eq_nil_of_le
        simp; omega
      rw [e, List.append_nil]
      exact Wrote.refl hA

/-- What writeText writes: the sign, the digits, the point, the zeros. -/
def textOf (neg : Bool) (hi lo : List UInt8) (pt : Int) : List UInt8 :=
  if hi.length + lo.length = 0 then [48] else
  (if neg then [45] else []) ++
    (if pt ≤ 0 then [48, 46] ++ List.replicate (-pt).toNat 48 ++ (hi ++ lo)
     else if (hi.length : Int) + lo.length ≤ pt then (hi ++ lo) ++ List.replicate (pt - (hi.length + lo.length)).toNat 48
     else (hi ++ lo).take pt.toNat ++ [46] ++ (hi ++ lo).drop pt.toNat)

theorem four_cells {w : World} {N : Nat} {a b c d : Value} (h : w.heap[N]? = some (.cells #[a, b, c, d] 66 (0, 0))) :
    w.cell? ⟨N, 0, none⟩ = some a ∧ w.cell? ⟨N, 1, none⟩ = some b ∧ w.cell? ⟨N, 2, none⟩ = some c ∧ w.cell? ⟨N, 3, none⟩ = some d :=
  ⟨by rw [Lib.cell_of_heap h]; rfl, by rw [Lib.cell_of_heap h]; rfl, by rw [Lib.cell_of_heap h]; rfl, by rw [Lib.cell_of_heap h]; rfl⟩

theorem cut_all (hi lo : List UInt8) (n : Nat) (h : hi.length + lo.length ≤ n) : cutDigits hi lo 0 n = hi ++ lo := by
  unfold cutDigits
  rw [List.drop_zero, List.take_of_length_le (by simp; omega)]

theorem writeZeros_int (B b : Nat) (l : List UInt8) (n : Int) (hn : 0 ≤ n) (w : World) (h : Bld B b l w) (hlen : l.length + n.toNat < 1000000) :
    Calls Try.prog 35 #[.pointer (some ⟨b, 0, none⟩), .int .i64 n] w fun e w' => e = .returned (.tuple #[]) ∧ Wrote B b (l ++ List.replicate n.toNat 48) w w' := by
  obtain ⟨m, rfl⟩ := Int.eq_ofNat_of_zero_le hn
  exact writeZeros_any B b l m w h (by omega)

theorem writeDigits_int (B b : Nat) (l : List UInt8) (neg : Bool) (hi lo : ByteArray) (pt : Int) (a z : Int) (w : World) (h : Bld B b l w) (h0 : 0 ≤ a) (haz : a ≤ z) (hz : z ≤ hi.size + lo.size) (hlen : l.length + hi.size + lo.size < 1000000) :
    Calls Try.prog 36 #[.agg #[.bool neg, .string hi, .string lo, .int .i64 pt], .pointer (some ⟨b, 0, none⟩), .int .i64 a, .int .i64 z] w fun e w' => e = .returned (.tuple #[]) ∧ Wrote B b (l ++ cutDigits hi.data.toList lo.data.toList a.toNat z.toNat) w w' := by
  obtain ⟨a, rfl⟩ := Int.eq_ofNat_of_zero_le h0
  obtain ⟨z, rfl⟩ := Int.eq_ofNat_of_zero_le (Int.le_trans h0 haz)
  exact writeDigits_any B b l neg hi lo pt a z w h (by omega) (by omega) hlen

/-- What stands when the sign has been written: the builder holds it; the boxed number lies in block N. -/
def Boxed (B b N : Nat) (l : List UInt8) (neg : Bool) (hi lo : ByteArray) (pt : Int) (w w' : World) : Prop :=
  Wrote B b l w w' ∧ w'.heap[N]? = some (.cells #[.bool neg, .string hi, .string lo, .int .i64 pt] 66 (0, 0)) ∧ b ≠ N
theorem Boxed.step {B b N : Nat} {l l' : List UInt8} {neg : Bool} {hi lo : ByteArray} {pt : Int} {w w' w'' : World} (h : Boxed B b N l neg hi lo pt w w') (k : Wrote B b l' w' w'') : Boxed B b N l' neg hi lo pt w w'' :=
  ⟨h.1.trans k, kept_block k.2.2 h.2.1 h.2.2, h.2.2⟩
theorem Boxed.cells {B b N : Nat} {l : List UInt8} {neg : Bool} {hi lo : ByteArray} {pt : Int} {w w' : World} (h : Boxed B b N l neg hi lo pt w w') :
    w'.cell? ⟨N, 0, none⟩ = some (.bool neg) ∧ w'.cell? ⟨N, 1, none⟩ = some (.string hi) ∧ w'.cell? ⟨N, 2, none⟩ = some (.string lo) ∧ w'.cell? ⟨N, 3, none⟩ = some (.int .i64 pt) := four_cells h.2.1

theorem boxed_start {B b : Nat} (neg : Bool) (hi lo : ByteArray) (pt : Int) {w : World} (h : Bld B b [] w) :
    Boxed B b w.heap.size [] neg hi lo pt w ((w.alloc (.cells #[.bool neg, .string hi, .string lo, .int .i64 pt] 66)).alloc (.cells #[.bool neg, .string hi, .string lo, .int .i64 pt] 66)) := by
  have hlt := h.lt
  have hS := h.size
  refine ⟨⟨(h.alloc _).alloc _, ((Below.refl B w).alloc hS _).alloc (by simp; omega) _, ((Lib.OthersKept.refl 5 (some b) w).alloc _).alloc _⟩, ?_, by omega⟩
  rw [Lib.alloc_old _ _ _ (by simp), new_heap]

theorem text_zero (neg : Bool) (hi lo : ByteArray) (pt : Int) (hz : hi.size + lo.size = 0) : textOf neg hi.data.toList lo.data.toList pt = [48] := by
  unfold textOf
  rw [if_pos (by exact hz)]
theorem text_low (neg : Bool) (hi lo : ByteArray) (pt : Int) (hz : hi.size + lo.size ≠ 0) (hp : pt ≤ 0) : textOf neg hi.data.toList lo.data.toList pt = (if neg then [45] else []) ++ [48, 46] ++ List.replicate (-pt).toNat 48 ++ cutDigits hi.data.toList lo.data.toList (0 : Int).toNat ((hi.size : Int) + lo.size).toNat := by
  unfold textOf
  rw [if_neg (by exact hz), if_pos hp, show (0 : Int).toNat = 0 from rfl, cut_all _ _ _ (by show hi.size + lo.size ≤ _; omega)]
  simp
theorem text_high (neg : Bool) (hi lo : ByteArray) (pt : Int) (hz : hi.size + lo.size ≠ 0) (hp : ¬ pt ≤ 0) (hq : (hi.size : Int) + lo.size ≤ pt) : textOf neg hi.data.toList lo.data.toList pt = (if neg then [45] else []) ++ cutDigits hi.data.toList lo.data.toList (0 : Int).toNat ((hi.size : Int) + lo.size).toNat ++ List.replicate (pt - ((hi.size : Int) + lo.size)).toNat 48 := by
  unfold textOf
  have hl1 : hi.data.toList.length = hi.size := rfl
  have hl2 : lo.data.toList.length = lo.size := rfl
  rw [if_neg (by exact hz), if_neg hp, hl1, hl2, if_pos hq, show (0 : Int).toNat = 0 from rfl, cut_all _ _ _ (by show hi.size + lo.size ≤ _; omega)]
  simp
theorem text_mid (neg : Bool) (hi lo : ByteArray) (pt : Int) (hz : hi.size + lo.size ≠ 0) (hp : ¬ pt ≤ 0) (hq : ¬ (hi.size : Int) + lo.size ≤ pt) : textOf neg hi.data.toList lo.data.toList pt = (if neg then [45] else []) ++ cutDigits hi.data.toList lo.data.toList (0 : Int).toNat pt.toNat ++ [46] ++ cutDigits hi.data.toList lo.data.toList pt.toNat ((hi.size : Int) + lo.size).toNat := by
  unfold textOf
  have hl1 : hi.data.toList.length = hi.size := rfl
  have hl2 : lo.data.toList.length = lo.size := rfl
  rw [if_neg (by exact hz), if_neg hp, hl1, hl2, if_neg hq]
  have e1 : cutDigits hi.data.toList lo.data.toList (0 : Int).toNat pt.toNat = (hi.data.toList ++ lo.data.toList).take pt.toNat := by unfold cutDigits; simp
  have e2 : cutDigits hi.data.toList lo.data.toList pt.toNat ((hi.size : Int) + lo.size).toNat = (hi.data.toList ++ lo.data.toList).drop pt.toNat := by
    unfold cutDigits
    rw [List.take_of_length_le (by rw [List.length_append, hl1, hl2]; omega)]
  rw [e1, e2]
  simp
theorem cut_len (hi lo : List UInt8) (a z : Nat) : (cutDigits hi lo a z).length ≤ hi.length + lo.length := by
  unfold cutDigits; simp; omega

set_option maxHeartbeats 1000000 in
theorem writeText_true (B b : Nat) (hi lo : ByteArray) (pt : Int) (w : World) (h : Bld B b [] w) (hz : hi.size + lo.size ≠ 0) (hhi : hi.size ≤ 65536) (hlo : lo.size ≤ 65536) (hp0 : -65536 ≤ pt) (hp1 : pt ≤ 65536) :
    Calls Try.prog 25 #[.agg #[.bool true, .string hi, .string lo, .int .i64 pt], .pointer (some ⟨b, 0, none⟩)] w fun e w' => e = .returned (.tuple #[]) ∧ Wrote B b (textOf true hi.data.toList lo.data.toList pt) w w' := by
  have hA := boxed_start true hi lo pt h
  have hz' : (((hi.size : Int) + (lo.size : Int)) == 0) = false := by rw [beq_eq_false_iff_ne]; omega
  have HL : Hid (hi.data.toList.length = hi.size ∧ lo.data.toList.length = lo.size) := ⟨rfl, rfl⟩
  by_cases hp : pt ≤ 0
  · have HT := text_low true hi lo pt hz hp
    rw [HT]
    clear HT hz
    go_enter Try.func25, Try.ntmps25
    go_wp2_with (first | (go_at_call 32; go_in) | fail)
    refine (writeByte_any B b _ 45 45 rfl _ hA.1.1 (by simp)).mono ?_
    rintro e w1 ⟨rfl, hW⟩
    replace hA := hA.step hW
    clear hW
    have hc := hA.cells
    go_wp2_with fail
    clear hc
    refine (writeString_any B b _ _ _ hA.1.1 (by have : (⟨#[48, 46]⟩ : ByteArray).size = 2 := rfl; simp; omega)).mono ?_
    rintro e w2 ⟨rfl, hW⟩
    replace hA := hA.step hW
    clear hW
    have hc := hA.cells
    go_wp2_with fail
    refine (writeZeros_int B b _ (-pt) (by omega) _ hA.1.1 (by simp; omega)).mono ?_
    rintro e w3 ⟨rfl, hW⟩
    replace hA := hA.step hW
    clear hW hc
    have hc := hA.cells
    go_wp2_with fail
    refine (writeDigits_int B b _ true hi lo pt 0 _ _ hA.1.1 (by omega) (by omega) (by omega) (by simp; omega)).mono ?_
    rintro e w4 ⟨rfl, hW⟩
    replace hA := hA.step hW
    clear hW hc
    go_wp2_with fail
    go_end0
    exact ⟨rfl, by simpa using hA.1⟩
  · by_cases hq : (hi.size : Int) + lo.size ≤ pt
    · have HT := text_high true hi lo pt hz hp hq
      rw [HT]
      clear HT hz
      go_enter Try.func25, Try.ntmps25
      go_wp2_with (first | (go_at_call 32; go_in) | fail)
      refine (writeByte_any B b _ 45 45 rfl _ hA.1.1 (by simp)).mono ?_
      rintro e w1 ⟨rfl, hW⟩
      replace hA := hA.step hW
      clear hW
      have hc := hA.cells
      go_wp2_with fail
      clear hc
      refine (writeDigits_int B b _ true hi lo pt 0 _ _ hA.1.1 (by omega) (by omega) (by omega) (by simp; omega)).mono ?_
      rintro e w2 ⟨rfl, hW⟩
      replace hA := hA.step hW
      clear hW
      have hc := hA.cells
      go_wp2_with fail
      refine (writeZeros_int B b _ (pt - ((hi.size : Int) + lo.size)) (by omega) _ hA.1.1 (by have := cut_len hi.data.toList lo.data.toList (0 : Int).toNat ((hi.size : Int) + lo.size).toNat; have := HL.out; simp only [List.length_append, List.length_cons, List.length_nil]; omega)).mono ?_
      rintro e w3 ⟨rfl, hW⟩
      replace hA := hA.step hW
      clear hW hc
      go_wp2_with fail
      go_end0
      exact ⟨rfl, by simpa using hA.1⟩
    · have HT := text_mid true hi lo pt hz hp hq
      rw [HT]
      clear HT hz
      go_enter Try.func25, Try.ntmps25
      go_wp2_with (first | (go_at_call 32; go_in) | fail)
      refine (writeByte_any B b _ 45 45 rfl _ hA.1.1 (by simp)).mono ?_
      rintro e w1 ⟨rfl, hW⟩
      replace hA := hA.step hW
      clear hW
      have hc := hA.cells
      go_wp2_with fail
      clear hc
      refine (writeDigits_int B b _ true hi lo pt 0 _ _ hA.1.1 (by omega) (by omega) (by omega) (by simp; omega)).mono ?_
      rintro e w2 ⟨rfl, hW⟩
      replace hA := hA.step hW
      clear hW
      have hc := hA.cells
      go_wp2_with fail
      refine (writeByte_any B b _ 46 46 rfl _ hA.1.1 (by have := cut_len hi.data.toList lo.data.toList (0 : Int).toNat pt.toNat; have := HL.out; simp only [List.length_append, List.length_cons, List.length_nil]; omega)).mono ?_
      rintro e w3 ⟨rfl, hW⟩
      replace hA := hA.step hW
      clear hW hc
      have hc := hA.cells
      go_wp2_with fail
      refine (writeDigits_int B b _ true hi lo pt pt _ _ hA.1.1 (by omega) (by omega) (by omega) (by have := cut_len hi.data.toList lo.data.toList (0 : Int).toNat pt.toNat; have := HL.out; simp only [List.length_append, List.length_cons, List.length_nil]; omega)).mono ?_
      rintro e w4 ⟨rfl, hW⟩
      replace hA := hA.step hW
      clear hW hc
      go_wp2_with fail
      go_end0
      exact ⟨rfl, by simpa using hA.1⟩

set_option maxHeartbeats 1000000 in
theorem writeText_false (B b : Nat) (hi lo : ByteArray) (pt : Int) (w : World) (h : Bld B b [] w) (hz : hi.size + lo.size ≠ 0) (hhi : hi.size ≤ 65536) (hlo : lo.size ≤ 65536) (hp0 : -65536 ≤ pt) (hp1 : pt ≤ 65536) :
    Calls Try.prog 25 #[.agg #[.bool false, .string hi, .string lo, .int .i64 pt], .pointer (some ⟨b, 0, none⟩)] w fun e w' => e = .returned (.tuple #[]) ∧ Wrote B b (textOf false hi.data.toList lo.data.toList pt) w w' := by
  have hA := boxed_start false hi lo pt h
  have hz' : (((hi.size : Int) + (lo.size : Int)) == 0) = false := by rw [beq_eq_false_iff_ne]; omega
  have HL : Hid (hi.data.toList.length = hi.size ∧ lo.data.toList.length = lo.size) := ⟨rfl, rfl⟩
  by_cases hp : pt ≤ 0
  · have HT := text_low false hi lo pt hz hp
    rw [HT]
    clear HT hz
    go_enter Try.func25, Try.ntmps25
    go_wp2_with (first | (go_at_call 32; go_in) | fail)
    skip
    refine (writeString_any B b _ _ _ hA.1.1 (by have : (⟨#[48, 46]⟩ : ByteArray).size = 2 := rfl; simp; omega)).mono ?_
    rintro e w2 ⟨rfl, hW⟩
    replace hA := hA.step hW
    clear hW
    have hc := hA.cells
    go_wp2_with fail
    refine (writeZeros_int B b _ (-pt) (by omega) _ hA.1.1 (by simp; omega)).mono ?_
    rintro e w3 ⟨rfl, hW⟩
    replace hA := hA.step hW
    clear hW hc
    have hc := hA.cells
    go_wp2_with fail
    refine (writeDigits_int B b _ false hi lo pt 0 _ _ hA.1.1 (by omega) (by omega) (by omega) (by simp; omega)).mono ?_
    rintro e w4 ⟨rfl, hW⟩
    replace hA := hA.step hW
    clear hW hc
    go_wp2_with fail
    go_end0
    exact ⟨rfl, by simpa using hA.1⟩
  · by_cases hq : (hi.size : Int) + lo.size ≤ pt
    · have HT := text_high false hi lo pt hz hp hq
      rw [HT]
      clear HT hz
      go_enter Try.func25, Try.ntmps25
      go_wp2_with (first | (go_at_call 32; go_in) | fail)
      skip
      refine (writeDigits_int B b _ false hi lo pt 0 _ _ hA.1.1 (by omega) (by omega) (by omega) (by simp; omega)).mono ?_
      rintro e w2 ⟨rfl, hW⟩
      replace hA := hA.step hW
      clear hW
      have hc := hA.cells
      go_wp2_with fail
      refine (writeZeros_int B b _ (pt - ((hi.size : Int) + lo.size)) (by omega) _ hA.1.1 (by have := cut_len hi.data.toList lo.data.toList (0 : Int).toNat ((hi.size : Int) + lo.size).toNat; have := HL.out; simp only [List.length_append, List.length_nil]; omega)).mono ?_
      rintro e w3 ⟨rfl, hW⟩
      replace hA := hA.step hW
      clear hW hc
      go_wp2_with fail
      go_end0
      exact ⟨rfl, by simpa using hA.1⟩
    · have HT := text_mid false hi lo pt hz hp hq
      rw [HT]
      clear HT hz
      go_enter Try.func25, Try.ntmps25
      go_wp2_with (first | (go_at_call 32; go_in) | fail)
      skip
      refine (writeDigits_int B b _ false hi lo pt 0 _ _ hA.1.1 (by omega) (by omega) (by omega) (by simp; omega)).mono ?_
      rintro e w2 ⟨rfl, hW⟩
      replace hA := hA.step hW
      clear hW
      have hc := hA.cells
      go_wp2_with fail
      refine (writeByte_any B b _ 46 46 rfl _ hA.1.1 (by have := cut_len hi.data.toList lo.data.toList (0 : Int).toNat pt.toNat; have := HL.out; simp only [List.length_append, List.length_nil]; omega)).mono ?_
      rintro e w3 ⟨rfl, hW⟩
      replace hA := hA.step hW
      clear hW hc
      have hc := hA.cells
      go_wp2_with fail
      refine (writeDigits_int B b _ false hi lo pt pt _ _ hA.1.1 (by omega) (by omega) (by omega) (by have := cut_len hi.data.toList lo.data.toList (0 : Int).toNat pt.toNat; have := HL.out; simp only [List.length_append, List.length_cons, List.length_nil]; omega)).mono ?_
      rintro e w4 ⟨rfl, hW⟩
      replace hA := hA.step hW
      clear hW hc
      go_wp2_with fail
      go_end0
      exact ⟨rfl, by simpa using hA.1⟩

set_option maxHeartbeats 1000000 in
theorem writeText_none (B b : Nat) (neg : Bool) (hi lo : ByteArray) (pt : Int) (w : World) (h : Bld B b [] w) (hz : hi.size + lo.size = 0) :
    Calls Try.prog 25 #[.agg #[.bool neg, .string hi, .string lo, .int .i64 pt], .pointer (some ⟨b, 0, none⟩)] w fun e w' => e = .returned (.tuple #[]) ∧ Wrote B b (textOf neg hi.data.toList lo.data.toList pt) w w' := by
  have hA := boxed_start neg hi lo pt h
  have hz' : (((hi.size : Int) + (lo.size : Int)) == 0) = true := by rw [beq_iff_eq]; omega
  have hx1 : hi.size ≤ 0 := by omega
  have hx2 : lo.size ≤ 0 := by omega
  rw [text_zero neg hi lo pt hz]
  clear hz
  go_enter Try.func25, Try.ntmps25
  go_wp2_with (first | (go_at_call 32; go_in) | fail)
  refine (writeByte_any B b _ 48 48 rfl _ hA.1.1 (by simp)).mono ?_
  rintro e w1 ⟨rfl, hW⟩
  replace hA := hA.step hW
  go_wp2_with fail
  refine bodyPost_ret (results_none rfl _ _ _) rfl ?_
  exact ⟨rfl, by simpa using hA.1⟩

theorem writeText_any (B b : Nat) (neg : Bool) (hi lo : ByteArray) (pt : Int) (w : World) (h : Bld B b [] w) (hhi : hi.size ≤ 65536) (hlo : lo.size ≤ 65536) (hp0 : -65536 ≤ pt) (hp1 : pt ≤ 65536) :
    Calls Try.prog 25 #[.agg #[.bool neg, .string hi, .string lo, .int .i64 pt], .pointer (some ⟨b, 0, none⟩)] w fun e w' => e = .returned (.tuple #[]) ∧ Wrote B b (textOf neg hi.data.toList lo.data.toList pt) w w' := by
  by_cases hz : hi.size + lo.size = 0
  · exact writeText_none B b neg hi lo pt w h hz
  · cases neg with
    | true => exact writeText_true B b hi lo pt w h hz hhi hlo hp0 hp1
    | false => exact writeText_false B b hi lo pt w h hz hhi hlo hp0 hp1

theorem text_ne (neg : Bool) (hi lo : List UInt8) (pt : Int) : textOf neg hi lo pt ≠ [] := by
  unfold textOf
  split
  · simp
  · rename_i h
    refine List.append_ne_nil_of_right_ne_nil _ ?_
    split
    · simp
    · split
      · intro e
        have := congrArg List.length e
        simp only [List.length_append, List.length_nil] at this
        omega
      · simp

/-- A fresh builder. -/
theorem bld_fresh (w : World) : Bld w.heap.size w.heap.size [] (w.alloc (.cells #[.pointer none, .slice none 0 0] 64)) := by
  refine .inl ⟨Nat.le_refl _, .slice none 0 0, new_heap w _, ?_, by simp [Value.ownBlock]⟩
  exact ⟨by simp [Lib.byteCells], .inl ⟨rfl, rfl⟩⟩

set_option maxHeartbeats 1000000 in
theorem decimalText_any (neg : Bool) (hi lo : ByteArray) (pt : Int) (w : World) (hhi : hi.size ≤ 65536) (hlo : lo.size ≤ 65536) (hp0 : -65536 ≤ pt) (hp1 : pt ≤ 65536) :
    Calls Try.prog 21 #[.bool neg, .string hi, .string lo, .int .i64 pt] w fun e w' => e = .returned (.string ⟨(textOf neg hi.data.toList lo.data.toList pt).toArray⟩) ∧ Below w.heap.size w w' := by
  have hF := bld_fresh w
  go_enter Try.func21, Try.ntmps21
  go_wp2_with fail
  refine (writeText_any w.heap.size w.heap.size neg hi lo pt _ hF hhi hlo hp0 hp1).mono ?_
  rintro e w1 ⟨rfl, hW⟩
  go_wp2_with fail
  refine (string_k w.heap.size w.heap.size _ _ hW.1 (text_ne neg _ _ pt)).mono ?_
  rintro e w2 ⟨rfl, hB⟩
  go_wp2_with fail
  go_ret
  exact ⟨rfl, (((Below.refl _ w).alloc (Nat.le_refl _) _).trans hW.2.1).trans hB⟩
end Go.Proofs.Qxb6602090a
