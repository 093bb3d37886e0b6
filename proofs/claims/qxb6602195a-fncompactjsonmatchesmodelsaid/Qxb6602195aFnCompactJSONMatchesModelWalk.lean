/-
  Seat b6602195a: zzSameBytes (13), ZZCompactJSON (12), and the walk of FnCompactJSONMatchesModel (4).
-/
import Derived.Test.Qxb6602195aCompact
namespace Go.Proofs.Qxb6602195a
open Go.RowKit

/-- A slice value of n elements whose cells are xs. -/
def Holds (w : World) (v : Value) (xs : List Int) : Prop :=
  ∃ a c, v = .slice a xs.length c ∧ ∀ k, k < xs.length → ∃ g, a = some ⟨g, 0, none⟩ ∧ w.cell? ⟨g, k, none⟩ = some (.int .u8 (xs.getD k 0))

theorem holds_own {B : Nat} {w : World} {v : Value} {xs : List Int} (h : w.ownsRow B 5 1 v xs.length (cellsOf xs)) : Holds w v xs := by
  rcases h.2 with ⟨hv, h0⟩ | ⟨g, cap, cur, hv, _⟩
  · exact ⟨none, 0, by rw [hv, h0], fun k hk => by omega⟩
  · refine ⟨some ⟨g, 0, none⟩, cap, hv, fun k hk => ⟨g, rfl, ?_⟩⟩
    have := h.cells (g := g) (by rw [hv]; rfl) k (.int .u8 (xs.getD k 0)) (by
      rw [cellsOf, List.getElem?_map, List.getElem?_eq_getElem hk, List.getD_eq_getElem?_getD, List.getElem?_eq_getElem hk]; rfl)
    rwa [addr_add, Nat.zero_add] at this

set_option maxRecDepth 100000 in
set_option maxHeartbeats 1000000 in
theorem same_any (w : World) (v u : Value) (xs : List Int) (hv : Holds w v xs) (hu : Holds w u xs) (hn : xs.length ≤ 1048576) :
    Calls Try.prog 13 #[v, u] w fun e w' => e = .returned (.bool true) ∧ ∃ n, w' = w.drewN n := by
  obtain ⟨a, ca, rfl, ha⟩ := hv
  obtain ⟨b, cb, rfl, hb⟩ := hu
  have HA : Hid (∀ k, k < xs.length → ∃ g, a = some ⟨g, 0, none⟩ ∧ w.cell? ⟨g, k, none⟩ = some (.int .u8 (xs.getD k 0))) := ha
  have HB : Hid (∀ k, k < xs.length → ∃ g, b = some ⟨g, 0, none⟩ ∧ w.cell? ⟨g, k, none⟩ = some (.int .u8 (xs.getD k 0))) := hb
  clear ha hb
  go_enter Try.func13, Try.ntmps13
  go_wp2
  go_loopw [5] (fun i wr => ∃ k n : Nat, k ≤ xs.length ∧ i = .int .i64 k ∧ wr = w.drewN n) (fun i _ => xs.length - (intOf i).toNat)
  case atStart => exact ⟨0, 0, by omega, rfl, rfl⟩
  case round =>
    obtain ⟨k, n, hk, rfl, rfl⟩ := hrel
    by_cases hlt : k < xs.length
    · obtain ⟨ga, rfl, hca⟩ := HA.out k hlt
      obtain ⟨gb, rfl, hcb⟩ := HB.out k hlt
      obtain ⟨y, hy⟩ : ∃ y, y = xs.getD k 0 := ⟨_, rfl⟩
      rw [← hy] at hca hcb
      clear hy
      have hk0 : (0 : Int) ≤ (k : Int) := by omega
      have hk1 : (k : Int) < (xs.length : Int) := by omega
      go_wp2
      go_quiet (fail)
      go_wp2
      go_roundw
      case rel => exact ⟨k + 1, _, by omega, by go_num, rfl⟩
      case measure => simp [intOf]; omega
    · have : k = xs.length := by omega
      subst this
      go_wp2
      go_ret
      exact ⟨rfl, n, rfl⟩

theorem Txt.below {B : Nat} {w w' : World} {v : Value} {l : List Int} (h : Txt w v l) (hw : Below B w w') (hB : w.heap.size ≤ B) : Txt w' v l := by
  rcases h with h | ⟨T, h1, h2⟩
  · exact .inl h
  · refine .inr ⟨T, h1, ?_⟩
    have hlt := (Array.getElem?_eq_some_iff.1 h2).1
    rw [hw.block T (by omega)]; exact h2
theorem Txt.reads {w : World} {v : Value} {l : List Int} (h : Txt w v l) : ∃ a, v = .slice a l.length l.length ∧ Reads w.heap.size w a l := by
  rcases h with ⟨h1, h2⟩ | ⟨T, h1, h2⟩
  · subst h2
    exact ⟨none, h1, fun k hk => by simp at hk⟩
  · refine ⟨some ⟨T, 0, none⟩, h1, fun k hk => ⟨T, rfl, (Array.getElem?_eq_some_iff.1 h2).1, ?_⟩⟩
    have : w.cell? ⟨T, k, none⟩ = (cellsOf l).toArray[k]? := by simp [World.cell?, h2]
    rw [this]
    simp [cellsOf, hk, List.getD_eq_getElem?_getD]
theorem Txt.own {B : Nat} {w : World} {v : Value} {l : List Int} (h : Txt w v l) (hv : v = .slice none 0 0 ∨ ∃ g, v.ownBlock = some g ∧ B ≤ g) (hl : l.length ≤ 1048576) : w.ownsRow B 5 1 v l.length (cellsOf l) := by
  refine ⟨by rw [cellsOf_length]; omega, ?_⟩
  rcases h with ⟨h1, h2⟩ | ⟨T, h1, h2⟩
  · exact .inl ⟨h1, by rw [h2]; rfl⟩
  · refine .inr ⟨T, l.length, _, h1, ?_, h2, Nat.le_refl _, by unfold maxLen; omega, by simp [cellsOf_length], by rw [Nat.mul_one, List.take_of_length_le (by simp [cellsOf_length])]⟩
    rcases hv with hv | ⟨g, hg, hB⟩
    · rw [h1] at hv; cases hv
    · rw [h1] at hg; simp [Value.ownBlock] at hg; omega

/-- compactJSON, whatever the text. -/
theorem compact_any (B : Nat) (W : World) (vd vt : Value) (ld lt : List Int) (hS : App B W vd vd ld W) (ht : Txt W vt lt) (hne : ∀ g, vt.ownBlock = some g → vd.ownBlock ≠ some g) (nd : ld.length ≤ 524288) (nt : lt.length ≤ 524288) :
    Calls Try.prog 18 #[vd, vt] W fun e w' => ∃ v, e = .returned v ∧ App B W vd v (ld ++ (run lt lt.length).out) w' := by
  rcases ht with ⟨rfl, rfl⟩ | ⟨T, rfl, hT⟩
  · have := compact_nil B W vd ld hS
    simp only [List.length_nil, run_zero, List.append_nil]
    exact this
  · refine compact_row B W vd ld lt T hS (Array.getElem?_eq_some_iff.1 hT).1 (hne T rfl) (fun k hk => ?_) nd nt
    have : W.cell? ⟨T, k, none⟩ = (cellsOf lt).toArray[k]? := by simp [World.cell?, hT]
    rw [this]
    simp [cellsOf, hk, List.getD_eq_getElem?_getD]

theorem zzCompact_any (B : Nat) (W : World) (vd vt : Value) (ld lt : List Int) (hS : App B W vd vd ld W) (ht : Txt W vt lt) (hne : ∀ g, vt.ownBlock = some g → vd.ownBlock ≠ some g) (nd : ld.length ≤ 524288) (nt : lt.length ≤ 524288) :
    Calls Try.prog 12 #[vd, vt] W fun e w' => ∃ v, e = .returned v ∧ App B W vd v (ld ++ (run lt lt.length).out) w' := by
  have H : Hid (Calls Try.prog 18 #[vd, vt] W fun e w' => ∃ v, e = .returned v ∧ App B W vd v (ld ++ (run lt lt.length).out) w') := compact_any B W vd vt ld lt hS ht hne nd nt
  clear hS ht hne
  go_enter Try.func12, Try.ntmps12
  go_wp2_with fail
  refine H.out.mono ?_
  rintro e w' ⟨v, rfl, hq⟩
  go_wp2_with fail
  go_ret
  exact ⟨v, rfl, hq⟩

theorem own_new {ad : Option Addr} {l : List Int} {w u1 u2 : World} (h : Value.slice ad l.length l.length = .slice none 0 0 ∨ (Value.slice ad l.length l.length).ownBlock = some w.heap.size) (h2 : Txt u2 (.slice ad l.length l.length) l) (h1 : Txt u1 (.slice ad l.length l.length) l) :
    ∀ g, (Value.slice ad l.length l.length).ownBlock = some g → w.heap.size ≤ g ∧ g < u2.heap.size ∧ g = w.heap.size ∧ g < u1.heap.size := by
  intro g hg
  have e1 : g = w.heap.size := by
    rcases h with h | h
    · rw [h] at hg; simp [Value.ownBlock] at hg
    · rw [h] at hg; exact (Option.some.inj hg).symm
  have lt_of : ∀ u : World, Txt u (.slice ad l.length l.length) l → g < u.heap.size := by
    intro u hT
    rcases hT with ⟨h, _⟩ | ⟨T, h, h3⟩
    · rw [h] at hg; simp [Value.ownBlock] at hg
    · rw [h] at hg
      simp [Value.ownBlock] at hg
      subst hg
      exact (Array.getElem?_eq_some_iff.1 h3).1
  exact ⟨by omega, lt_of u2 h2, e1, lt_of u1 h1⟩
theorem nil_law {ag ad : Option Addr} {n cg m : Nat} {xs : List Int} (h : Value.slice ag xs.length cg = .slice none 0 0 ↔ Value.slice ad n m = .slice none 0 0 ∧ xs.length = 0)
    (hg : ag = none → xs.length = 0 ∧ cg = 0) (hd : ad = none → n = 0 ∧ m = 0) : ag.isNone = (ad.isNone && decide (xs.length = 0)) := by
  rw [Bool.eq_iff_iff]
  simp only [Bool.and_eq_true, Option.isNone_iff_eq_none, decide_eq_true_eq]
  constructor
  · intro e
    obtain ⟨h1, h2⟩ := hg e
    obtain ⟨h3, h4⟩ := h.1 (by rw [e, h1, h2])
    injection h3 with h5
    exact ⟨h5, h4⟩
  · rintro ⟨e1, e2⟩
    obtain ⟨h1, h2⟩ := hd e1
    have := h.2 ⟨by rw [e1, h1, h2], e2⟩
    injection this
theorem own_none {B : Nat} {w : World} {a : Option Addr} {c : Nat} {xs : List Int} (h : w.ownsRow B 5 1 (.slice a xs.length c) xs.length (cellsOf xs)) : a = none → xs.length = 0 ∧ c = 0 := by
  rintro rfl
  rcases h.2 with ⟨h1, h2⟩ | ⟨g, cap, cur, h1, _⟩
  · injection h1 with _ h3 h4
    exact ⟨h2, h4⟩
  · injection h1 with h3
    cases h3
theorem txt_none {w : World} {a : Option Addr} {n c : Nat} {l : List Int} (h : Txt w (.slice a n c) l) : a = none → n = 0 ∧ c = 0 := by
  rintro rfl
  rcases h with ⟨h1, _⟩ | ⟨T, h1, _⟩
  · injection h1 with _ h3 h4
    exact ⟨h3, h4⟩
  · injection h1 with h3
    cases h3

namespace fnCompactJSONMatchesModel

set_option maxRecDepth 100000 in
set_option maxHeartbeats 2000000 in
theorem walk_in (a0 : Option Addr) (len0 cap0 : Nat) (z0 : List Int) (a1 : Option Addr) (len1 cap1 : Nat) (z1 : List Int) (w : World) (w0 : IsRow .u8 w a0 len0 cap0 z0) (w1 : IsRow .u8 w a1 len1 cap1 z1) (h0 : len0 ≤ 524288) (h1 : len1 ≤ 524288) :
    Calls Try.prog 4 #[.slice a0 len0 cap0, .slice a1 len1 cap1] w fun e w' => e = .returned (.bool true) ∧ Below w.heap.size w w' := by
  have q23 : ∀ (w : World) (a : Option Addr) (n c n' c' : Nat), (binOp .eql 23 (.slice a n c) (.slice none n' c')).run Try.prog w = .ok (.bool a.isNone) w := fun w a n c n' c' => Lib.run_eql_slice_nil w _ _ a n c n' c' Try.underlying23
  have x0 : ¬ (1048576 : Int) < (len0 : Int) := by omega
  have hl0 : (z0.take len0).length ≤ 524288 := by rw [List.length_take]; omega
  have hl1 : (z1.take len1).length ≤ 524288 := by rw [List.length_take]; omega
  go_enter Try.func4, Try.ntmps4
  go_wp2_with (first | (go_at_call 9; go_in) | fail)
  refine (clone_any w a0 len0 cap0 z0 w0 (by omega)).mono ?_
  rintro e u1 ⟨vd, rfl, hTd, hvd, hB1⟩
  go_wp2_with fail
  refine (clone_any u1 a1 len1 cap1 z1 (w1.below hB1 rfl) (by omega)).mono ?_
  rintro e u2 ⟨vt, rfl, hTt, hvt, hB2⟩
  have hTd2 := hTd.below hB2 (Nat.le_refl _)
  obtain ⟨ad, hvd2, hRd⟩ := hTd2.reads
  obtain ⟨at', hvt2, hRt⟩ := hTt.reads
  generalize hLd : z0.take len0 = ld at *
  generalize hLt : z1.take len1 = lt at *
  have hTd0 := hTd
  clear hLd hLt w0 w1 hTd
  subst hvd2
  subst hvt2
  have hs1 := hB1.size
  have hs2 := hB2.size
  have hadlt : ∀ g, (Value.slice ad ld.length ld.length).ownBlock = some g → w.heap.size ≤ g ∧ g < u2.heap.size ∧ g = w.heap.size ∧ g < u1.heap.size := own_new hvd hTd2 hTd0
  go_wp2_with fail
  refine (model_any u2 ad at' ld lt hRd hRt hl0 hl1).mono ?_
  rintro e u3 ⟨vu, rfl, hU⟩
  have hTd3 := hTd2.below hU.2.1 (Nat.le_refl _)
  have hTt3 := hTt.below hU.2.1 (Nat.le_refl _)
  have hs3 := hU.2.1.size
  have hOd : App w.heap.size u3 (.slice ad ld.length ld.length) (.slice ad ld.length ld.length) ld u3 := App.start (hTd3.own (by
    rcases hvd with h | h
    · exact .inl h
    · exact .inr ⟨_, h, Nat.le_refl _⟩) (by omega)) (by omega)
  go_wp2_with fail
  refine (zzCompact_any w.heap.size u3 (.slice ad ld.length ld.length) (.slice at' lt.length lt.length) ld lt hOd hTt3 (fun g hg e => by
    have h2 := hadlt g e
    rcases hvt with h | h
    · rw [h] at hg; simp [Value.ownBlock] at hg
    · rw [h] at hg; have := Option.some.inj hg; omega) hl0 hl1).mono ?_
  rintro e u4 ⟨vg, rfl, hG⟩
  have hU4 : u4.ownsRow u2.heap.size 5 1 vu (ld ++ (run lt lt.length).out).length (cellsOf (ld ++ (run lt lt.length).out)) := by
    refine hU.1.kept hG.grown ?_
    cases hv : vu.ownBlock with
    | none => exact .inl rfl
    | some g =>
      refine .inr fun e => ?_
      have h1 := (hU.1.lt g hv).1
      have h2 := hadlt g e.symm
      omega
  have hxl : (ld ++ (run lt lt.length).out).length ≤ 1048576 := by
    have := run_len lt lt.length (Nat.le_refl _)
    rw [List.length_append]; omega
  have hBe : Below w.heap.size w u4 := by
    refine ((hB1.trans (hB2.mono hs1)).trans (hU.2.1.mono (by omega))).trans ⟨hG.grown.os, hG.grown.tape, hG.grown.output, hG.grown.size, fun k hk => hG.grown.block k (by omega) (fun e => ?_)⟩
    have := hadlt k e.symm
    omega
  have hHu := holds_own hU4
  have hHg := holds_own hG.own
  have hnl := hG.nil
  generalize ld ++ (run lt lt.length).out = xs at *
  have HS : Hid (∀ w', u4 = w' → Calls Try.prog 13 #[vg, vu] w' fun e w'' => e = .returned (.bool true) ∧ ∃ n, w'' = w'.drewN n) := fun w' hw => by
    subst hw; exact same_any u4 vg vu xs hHg hHu hxl
  obtain ⟨ag, cg, rfl, _⟩ := hHg
  obtain ⟨au, cu, rfl, _⟩ := hHu
  have HN : Hid (ag.isNone = (ad.isNone && decide (xs.length = 0))) := nil_law hnl (own_none hG.own) (txt_none hTd0)
  clear hnl hG hU hU4 hTd3 hTt3 hOd hTd2 hTt hRd hRt hvd hvt hadlt hTd0
  cases ad with
  | none =>
    by_cases hx : xs.length = 0
    · have hag : ag.isNone = true := by rw [HN.out]; simp [hx]
      have hx' : ((xs.length : Int) == 0) = true := by rw [beq_iff_eq]; omega
      have HX : Hid (xs.length = 0) := hx
      clear hx HN
      go_wp2_with fail
      refine (HS.out _ rfl).mono ?_
      rintro e u5 ⟨rfl, n, rfl⟩
      go_wp2_with fail
      go_ret
      exact ⟨rfl, below_drewN hBe _⟩
    · have hag : ag.isNone = false := by rw [HN.out]; simp [hx]
      have hx' : ((xs.length : Int) == 0) = false := by rw [beq_eq_false_iff_ne]; omega
      have HX : Hid (¬ xs.length = 0) := hx
      clear hx HN
      go_wp2_with fail
      refine (HS.out _ rfl).mono ?_
      rintro e u5 ⟨rfl, n, rfl⟩
      go_wp2_with fail
      go_ret
      exact ⟨rfl, below_drewN hBe _⟩
  | some d =>
    have hag : ag.isNone = false := by rw [HN.out]; rfl
    clear HN
    go_wp2_with fail
    refine (HS.out _ rfl).mono ?_
    rintro e u5 ⟨rfl, n, rfl⟩
    go_wp2_with fail
    go_ret
    exact ⟨rfl, below_drewN hBe _⟩

theorem walk (a0 : Option Addr) (len0 cap0 : Nat) (z0 : List Int) (a1 : Option Addr) (len1 cap1 : Nat) (z1 : List Int) (w : World) (w0 : IsRow .u8 w a0 len0 cap0 z0) (w1 : IsRow .u8 w a1 len1 cap1 z1) :
    Calls Try.prog 4 #[.slice a0 len0 cap0, .slice a1 len1 cap1] w fun e w' => e = .returned (.bool true) ∧ Below w.heap.size w w' := by
  have b0 : len0 ≤ maxLen := by
    rcases w0 with ⟨_, h, _⟩ | ⟨x, _, h1, h2, _⟩
    · omega
    · omega
  have b1 : len1 ≤ maxLen := by
    rcases w1 with ⟨_, h, _⟩ | ⟨x, _, h1, h2, _⟩
    · omega
    · omega
  unfold maxLen at b0 b1
  by_cases k0 : len0 ≤ 524288
  · by_cases k1 : len1 ≤ 524288
    · exact walk_in a0 len0 cap0 z0 a1 len1 cap1 z1 w w0 w1 k0 k1
    · by_cases k2 : len1 ≤ 1048576
      · by_cases k3 : len0 + len1 ≤ 1048576
        · go_enter Try.func4, Try.ntmps4
          go_wp2
          go_ret
          exact ⟨rfl, Below.refl _ _⟩
        · go_enter Try.func4, Try.ntmps4
          go_wp2
          go_ret
          exact ⟨rfl, Below.refl _ _⟩
      · go_enter Try.func4, Try.ntmps4
        go_wp2
        go_ret
        exact ⟨rfl, Below.refl _ _⟩
  · by_cases k2 : len0 ≤ 1048576
    · by_cases k4 : len1 ≤ 1048576
      · by_cases k3 : len0 + len1 ≤ 1048576
        · go_enter Try.func4, Try.ntmps4
          go_wp2
          go_ret
          exact ⟨rfl, Below.refl _ _⟩
        · go_enter Try.func4, Try.ntmps4
          go_wp2
          go_ret
          exact ⟨rfl, Below.refl _ _⟩
      · go_enter Try.func4, Try.ntmps4
        go_wp2
        go_ret
        exact ⟨rfl, Below.refl _ _⟩
    · go_enter Try.func4, Try.ntmps4
      go_wp2
      go_ret
      exact ⟨rfl, Below.refl _ _⟩
end fnCompactJSONMatchesModel
end Go.Proofs.Qxb6602195a
