/-
  Seat b6602090a: the script as it lies in memory; zzBytes (7, 18), zzScriptFits (8), zzScriptInDomain (9).
-/
import Derived.Test.Qxb6602090aParts
namespace Go.Proofs.Qxb6602090a
open Go.RowKit Go.Maps

/-- A key, as a slice of steps. -/
def KeyArg (w : World) (v : Value) (key : Key) : Prop :=
  ∃ ad cp, v = .slice ad key.length cp ∧ (ad = none → cp = 0) ∧ (0 < key.length → ∃ a, ad = some a ∧ ∀ i s, key[i]? = some s → w.cell? (a.add (i * 2)) = some (.string s.1) ∧ w.cell? (a.add (i * 2 + 1)) = some (.bool s.2))
/-- A script, as a slice of claims. -/
def ScrArg (w : World) (v : Value) (S : List Clm) : Prop :=
  ∃ ad cp, v = .slice ad S.length cp ∧ (ad = none → cp = 0) ∧ (0 < S.length → ∃ a, ad = some a ∧ ∀ i m, S[i]? = some m → (∃ kv, w.cell? (a.add (i * 3)) = some kv ∧ KeyArg w kv m.key) ∧ w.cell? (a.add (i * 3 + 1)) = some (.int .i64 m.place) ∧ w.cell? (a.add (i * 3 + 2)) = some (.bool m.deny))

/-- A field's address, as the walk spells it. -/
theorem at_field (a : Addr) (n j : Nat) : (⟨(a.add n).block, (a.add n).off + (j + 1), none⟩ : Addr) = a.add (n + (j + 1)) := by
  unfold Addr.add
  by_cases h : n = 0
  · subst h; simp
  · simp [h]; omega

set_option maxRecDepth 100000 in
set_option maxHeartbeats 4000000 in
theorem bytes7_any (w : World) (v : Value) (S : List Clm) (h : ScrArg w v S) (hn : S.length ≤ 9223372036854775807) : Calls Try.prog 7 #[v] w fun r w' => (∃ b, r = .returned (.bool b)) ∧ w = w' := by
  obtain ⟨ad, cp, rfl, _, hS⟩ := h
  obtain ⟨n, hn'⟩ : ∃ n, n = S.length := ⟨_, rfl⟩
  rw [← hn'] at hS hn ⊢
  have HS : Hid (0 < n → ∃ a, ad = some a ∧ ∀ i m, S[i]? = some m → (∃ kv, w.cell? (a.add (i * 3)) = some kv ∧ KeyArg w kv m.key) ∧ w.cell? (a.add (i * 3 + 1)) = some (.int .i64 m.place) ∧ w.cell? (a.add (i * 3 + 2)) = some (.bool m.deny)) := hS
  have HN : Hid (n = S.length) := hn'
  clear hS hn'
  by_cases hbig : n ≤ 1048576
  · have d0 : decide ((n : Int) > 1048576) = false := decide_eq_false (by omega)
    go_enter Try.func7, Try.ntmps7
    go_wp2
    go_loopw [3, 4] (fun z i wr => ∃ (x : Int) (k : Nat), z = .int .i64 x ∧ i = .int .i64 k ∧ k ≤ n ∧ w = wr) (fun _ i _ => n - (intOf i).toNat)
    case atStart => exact ⟨n, 0, rfl, rfl, by omega, rfl⟩
    case round =>
      obtain ⟨x, k, rfl, rfl, hk, rfl⟩ := hrel
      by_cases h1 : k < n
      · obtain ⟨a, rfl, hS⟩ := HS.out (by omega)
        obtain ⟨m, hm⟩ : ∃ m, S[k]? = some m := ⟨_, List.getElem?_eq_getElem (by rw [← HN.out]; exact h1)⟩
        obtain ⟨⟨kv, c0, ad2, cp2, rfl, _, hK⟩, c1, c2⟩ := hS k m hm
        clear hS hm
        have hi0 : (0 : Int) ≤ (k : Int) := by omega
        have hi1 : (k : Int) < (n : Int) := by omega
        have d1 : decide ((k : Int) < (n : Int)) = true := decide_eq_true hi1
        obtain ⟨l, hl⟩ : ∃ l, l = m.key.length := ⟨_, rfl⟩
        rw [← hl] at hK c0
        have HK : Hid (0 < l → ∃ a, ad2 = some a ∧ ∀ i s, m.key[i]? = some s → w.cell? (a.add (i * 2)) = some (.string s.1) ∧ w.cell? (a.add (i * 2 + 1)) = some (.bool s.2)) := hK
        have HL : Hid (l = m.key.length) := hl
        clear hK hl
        by_cases h2 : l ≤ 1048576
        · have d2 : decide ((l : Int) > 1048576) = false := decide_eq_false (by omega)
          go_wp2
          · go_ret
            exact ⟨⟨_, rfl⟩, rfl⟩
          · go_loopw [3, 5] (fun z i wr => ∃ (y : Int) (j : Nat), z = .int .i64 y ∧ i = .int .i64 j ∧ j ≤ l ∧ w = wr) (fun _ i _ => l - (intOf i).toNat)
            case atStart => exact ⟨_, 0, rfl, rfl, by omega, rfl⟩
            case round =>
              obtain ⟨y, j, rfl, rfl, hj, rfl⟩ := hrel
              by_cases h3 : j < l
              · obtain ⟨a2, rfl, hK⟩ := HK.out (by omega)
                obtain ⟨s, hs⟩ : ∃ s, m.key[j]? = some s := ⟨_, List.getElem?_eq_getElem (by rw [← HL.out]; exact h3)⟩
                obtain ⟨k0, k1⟩ := hK j s hs
                clear hK hs
                have hj0 : (0 : Int) ≤ (j : Int) := by omega
                have hj1 : (j : Int) < (l : Int) := by omega
                have d3 : decide ((j : Int) < (l : Int)) = true := decide_eq_true hj1
                go_wp2
                · go_ret
                  exact ⟨⟨_, rfl⟩, rfl⟩
                · go_ret
                  exact ⟨⟨_, rfl⟩, rfl⟩
                · go_roundw
                  case rel => exact ⟨_, j + 1, rfl, by go_num, by omega, by first | rfl | trivial⟩
                  case measure => simp [intOf]; omega
              · have d3 : decide ((j : Int) < (l : Int)) = false := decide_eq_false (by omega)
                go_wp2
                go_roundw
                case rel => exact ⟨_, k + 1, rfl, by go_num, by omega, by first | rfl | trivial⟩
                case measure => simp [intOf]; omega
        · have d2 : decide ((l : Int) > 1048576) = true := decide_eq_true (by omega)
          go_wp2
          go_ret
          exact ⟨⟨_, rfl⟩, rfl⟩
      · have d1 : decide ((k : Int) < (n : Int)) = false := decide_eq_false (by omega)
        go_wp2
        go_ret
        exact ⟨⟨_, rfl⟩, rfl⟩
  · have d0 : decide ((n : Int) > 1048576) = true := decide_eq_true (by omega)
    go_enter Try.func7, Try.ntmps7
    go_wp2
    go_ret
    exact ⟨⟨_, rfl⟩, rfl⟩
set_option maxRecDepth 100000 in
set_option maxHeartbeats 4000000 in
theorem bytes18_any (w : World) (v : Value) (S : List Clm) (h : ScrArg w v S) (hn : S.length ≤ 9223372036854775807) : Calls Try.prog 18 #[v] w fun r w' => (∃ b, r = .returned (.bool b)) ∧ w = w' := by
  obtain ⟨ad, cp, rfl, _, hS⟩ := h
  obtain ⟨n, hn'⟩ : ∃ n, n = S.length := ⟨_, rfl⟩
  rw [← hn'] at hS hn ⊢
  have HS : Hid (0 < n → ∃ a, ad = some a ∧ ∀ i m, S[i]? = some m → (∃ kv, w.cell? (a.add (i * 3)) = some kv ∧ KeyArg w kv m.key) ∧ w.cell? (a.add (i * 3 + 1)) = some (.int .i64 m.place) ∧ w.cell? (a.add (i * 3 + 2)) = some (.bool m.deny)) := hS
  have HN : Hid (n = S.length) := hn'
  clear hS hn'
  by_cases hbig : n ≤ 1048576
  · have d0 : decide ((n : Int) > 1048576) = false := decide_eq_false (by omega)
    go_enter Try.func18, Try.ntmps18
    go_wp2
    go_loopw [3, 4] (fun z i wr => ∃ (x : Int) (k : Nat), z = .int .i64 x ∧ i = .int .i64 k ∧ k ≤ n ∧ w = wr) (fun _ i _ => n - (intOf i).toNat)
    case atStart => exact ⟨n, 0, rfl, rfl, by omega, rfl⟩
    case round =>
      obtain ⟨x, k, rfl, rfl, hk, rfl⟩ := hrel
      by_cases h1 : k < n
      · obtain ⟨a, rfl, hS⟩ := HS.out (by omega)
        obtain ⟨m, hm⟩ : ∃ m, S[k]? = some m := ⟨_, List.getElem?_eq_getElem (by rw [← HN.out]; exact h1)⟩
        obtain ⟨⟨kv, c0, ad2, cp2, rfl, _, hK⟩, c1, c2⟩ := hS k m hm
        clear hS hm
        have hi0 : (0 : Int) ≤ (k : Int) := by omega
        have hi1 : (k : Int) < (n : Int) := by omega
        have d1 : decide ((k : Int) < (n : Int)) = true := decide_eq_true hi1
        obtain ⟨l, hl⟩ : ∃ l, l = m.key.length := ⟨_, rfl⟩
        rw [← hl] at hK c0
        have HK : Hid (0 < l → ∃ a, ad2 = some a ∧ ∀ i s, m.key[i]? = some s → w.cell? (a.add (i * 2)) = some (.string s.1) ∧ w.cell? (a.add (i * 2 + 1)) = some (.bool s.2)) := hK
        have HL : Hid (l = m.key.length) := hl
        clear hK hl
        by_cases h2 : l ≤ 1048576
        · have d2 : decide ((l : Int) > 1048576) = false := decide_eq_false (by omega)
          go_wp2
          · go_ret
            exact ⟨⟨_, rfl⟩, rfl⟩
          · go_loopw [3, 5] (fun z i wr => ∃ (y : Int) (j : Nat), z = .int .i64 y ∧ i = .int .i64 j ∧ j ≤ l ∧ w = wr) (fun _ i _ => l - (intOf i).toNat)
            case atStart => exact ⟨_, 0, rfl, rfl, by omega, rfl⟩
            case round =>
              obtain ⟨y, j, rfl, rfl, hj, rfl⟩ := hrel
              by_cases h3 : j < l
              · obtain ⟨a2, rfl, hK⟩ := HK.out (by omega)
                obtain ⟨s, hs⟩ : ∃ s, m.key[j]? = some s := ⟨_, List.getElem?_eq_getElem (by rw [← HL.out]; exact h3)⟩
                obtain ⟨k0, k1⟩ := hK j s hs
                clear hK hs
                have hj0 : (0 : Int) ≤ (j : Int) := by omega
                have hj1 : (j : Int) < (l : Int) := by omega
                have d3 : decide ((j : Int) < (l : Int)) = true := decide_eq_true hj1
                go_wp2
                · go_ret
                  exact ⟨⟨_, rfl⟩, rfl⟩
                · go_ret
                  exact ⟨⟨_, rfl⟩, rfl⟩
                · go_roundw
                  case rel => exact ⟨_, j + 1, rfl, by go_num, by omega, by first | rfl | trivial⟩
                  case measure => simp [intOf]; omega
              · have d3 : decide ((j : Int) < (l : Int)) = false := decide_eq_false (by omega)
                go_wp2
                go_roundw
                case rel => exact ⟨_, k + 1, rfl, by go_num, by omega, by first | rfl | trivial⟩
                case measure => simp [intOf]; omega
        · have d2 : decide ((l : Int) > 1048576) = true := decide_eq_true (by omega)
          go_wp2
          go_ret
          exact ⟨⟨_, rfl⟩, rfl⟩
      · have d1 : decide ((k : Int) < (n : Int)) = false := decide_eq_false (by omega)
        go_wp2
        go_ret
        exact ⟨⟨_, rfl⟩, rfl⟩
  · have d0 : decide ((n : Int) > 1048576) = true := decide_eq_true (by omega)
    go_enter Try.func18, Try.ntmps18
    go_wp2
    go_ret
    exact ⟨⟨_, rfl⟩, rfl⟩

/-- What zzScriptFits asks. -/
def FitM (m : Clm) : Prop := m.key.length ≤ 65536 ∧ ∀ s ∈ m.key, s.1.size ≤ 1048576
def FitK (key : Key) (j : Nat) : Prop := ∀ i s, i < j → key[i]? = some s → s.1.size ≤ 1048576
def FitS (S : List Clm) (k : Nat) : Prop := ∀ i m, i < k → S[i]? = some m → FitM m

def FitsPost (w : World) (S : List Clm) (n : Nat) (r : Ending) (w' : World) : Prop := ∃ b, r = .returned (.bool b) ∧ w = w' ∧ (b = true → n ≤ 4096 ∧ FitS S n)
theorem FitsPost.no (w : World) (S : List Clm) (n : Nat) : FitsPost w S n (.returned (.bool false)) w := ⟨_, rfl, rfl, fun hh => by cases hh⟩

set_option maxRecDepth 100000 in
set_option maxHeartbeats 4000000 in
theorem fits_any (w : World) (v : Value) (S : List Clm) (h : ScrArg w v S) : Calls Try.prog 8 #[v, .int .i64 4096] w fun r w' => FitsPost w S S.length r w' := by
  obtain ⟨ad, cp, rfl, _, hS⟩ := h
  obtain ⟨n, hn'⟩ : ∃ n, n = S.length := ⟨_, rfl⟩
  rw [← hn'] at hS ⊢
  have HS : Hid (0 < n → ∃ a, ad = some a ∧ ∀ i m, S[i]? = some m → (∃ kv, w.cell? (a.add (i * 3)) = some kv ∧ KeyArg w kv m.key) ∧ w.cell? (a.add (i * 3 + 1)) = some (.int .i64 m.place) ∧ w.cell? (a.add (i * 3 + 2)) = some (.bool m.deny)) := hS
  have HN : Hid (n = S.length) := hn'
  clear hS hn'
  by_cases hbig : n ≤ 4096
  · have d0 : decide ((n : Int) > 4096) = false := decide_eq_false (by omega)
    go_enter Try.func8, Try.ntmps8
    go_wp2
    go_loopw [5, 6, 7] (fun z y i wr => ∃ (x x2 : Int) (k : Nat), z = .int .i64 x ∧ y = .int .i64 x2 ∧ i = .int .i64 k ∧ k ≤ n ∧ w = wr ∧ Hid (FitS S k)) (fun _ _ i _ => n - (intOf i).toNat)
    case atStart => exact ⟨_, 0, 0, rfl, rfl, rfl, by omega, rfl, fun i m hi => by omega⟩
    case round =>
      obtain ⟨x, x2, k, rfl, rfl, rfl, hk, rfl, HF⟩ := hrel
      by_cases h1 : k < n
      · obtain ⟨a, rfl, hS⟩ := HS.out (by omega)
        obtain ⟨m, hm⟩ : ∃ m, S[k]? = some m := ⟨_, List.getElem?_eq_getElem (by rw [← HN.out]; exact h1)⟩
        obtain ⟨⟨kv, c0, ad2, cp2, rfl, _, hK⟩, c1, c2⟩ := hS k m hm
        have HM : Hid (S[k]? = some m) := hm
        clear hS hm
        have hi0 : (0 : Int) ≤ (k : Int) := by omega
        have hi1 : (k : Int) < (n : Int) := by omega
        have d1 : decide ((k : Int) < (n : Int)) = true := decide_eq_true hi1
        obtain ⟨l, hl⟩ : ∃ l, l = m.key.length := ⟨_, rfl⟩
        rw [← hl] at hK c0
        have HK : Hid (0 < l → ∃ a, ad2 = some a ∧ ∀ i s, m.key[i]? = some s → w.cell? (a.add (i * 2)) = some (.string s.1) ∧ w.cell? (a.add (i * 2 + 1)) = some (.bool s.2)) := hK
        have HL : Hid (l = m.key.length) := hl
        clear hK hl
        by_cases h2 : l ≤ 65536
        · have d2 : decide ((l : Int) > 65536) = false := decide_eq_false (by omega)
          by_cases h4 : wrap64 (x2 + l) > 65536
          · have d4 : decide (wrap64 (x2 + (l : Int)) > 65536) = true := decide_eq_true h4
            go_wp2
            go_ret
            exact FitsPost.no w S n
          · have d4 : decide (wrap64 (x2 + (l : Int)) > 65536) = false := decide_eq_false h4
            go_wp2
            · go_ret
              exact FitsPost.no w S n
            · go_loopw [5, 9] (fun z i wr => ∃ (y : Int) (j : Nat), z = .int .i64 y ∧ i = .int .i64 j ∧ j ≤ l ∧ w = wr ∧ Hid (FitK m.key j)) (fun _ i _ => l - (intOf i).toNat)
              case atStart => exact ⟨_, 0, rfl, rfl, by omega, rfl, fun i m hi => by omega⟩
              case round =>
                obtain ⟨y, j, rfl, rfl, hj, rfl, HJ⟩ := hrel
                by_cases h3 : j < l
                · obtain ⟨a2, rfl, hK⟩ := HK.out (by omega)
                  obtain ⟨s, hs⟩ : ∃ s, m.key[j]? = some s := ⟨_, List.getElem?_eq_getElem (by rw [← HL.out]; exact h3)⟩
                  obtain ⟨k0, k1⟩ := hK j s hs
                  have HSs : Hid (m.key[j]? = some s) := hs
                  clear hK hs
                  have hj0 : (0 : Int) ≤ (j : Int) := by omega
                  have hj1 : (j : Int) < (l : Int) := by omega
                  have d3 : decide ((j : Int) < (l : Int)) = true := decide_eq_true hj1
                  by_cases h5 : s.1.size ≤ 1048576
                  · have d5 : decide ((s.1.size : Int) > 1048576) = false := decide_eq_false (by omega)
                    have HJ1 : Hid (FitK m.key (j + 1)) := by
                      intro i s' hi hs'
                      by_cases e : i = j
                      · subst e
                        rw [HSs.out] at hs'; injection hs' with hs'; subst hs'; exact h5
                      · exact HJ.out i s' (by omega) hs'
                    go_wp2
                    · go_ret
                      exact FitsPost.no w S n
                    · go_roundw
                      case rel => exact ⟨_, j + 1, rfl, by go_num, by omega, by first | rfl | trivial, HJ1⟩
                      case measure => simp [intOf]; omega
                  · have d5 : decide ((s.1.size : Int) > 1048576) = true := decide_eq_true (by omega)
                    go_wp2
                    go_ret
                    exact FitsPost.no w S n
                · have d3 : decide ((j : Int) < (l : Int)) = false := decide_eq_false (by omega)
                  have HF1 : Hid (FitS S (k + 1)) := by
                    intro i m' hi hm'
                    by_cases e : i = k
                    · subst e
                      rw [HM.out] at hm'; injection hm' with hm'; subst hm'
                      refine ⟨by rw [← HL.out]; exact h2, fun s hs => ?_⟩
                      obtain ⟨q, hq⟩ := List.mem_iff_getElem?.1 hs
                      refine HJ.out q s ?_ hq
                      have := (List.getElem?_eq_some_iff.1 hq).1
                      have := HL.out
                      omega
                    · exact HF.out i m' (by omega) hm'
                  go_wp2
                  go_roundw
                  case rel => exact ⟨_, _, k + 1, rfl, rfl, by go_num, by omega, by first | rfl | trivial, HF1⟩
                  case measure => simp [intOf]; omega
        · have d2 : decide ((l : Int) > 65536) = true := decide_eq_true (by omega)
          go_wp2
          go_ret
          exact FitsPost.no w S n
      · have d1 : decide ((k : Int) < (n : Int)) = false := decide_eq_false (by omega)
        go_wp2
        go_ret
        exact ⟨_, rfl, rfl, fun _ => ⟨hbig, by rw [show n = k from by omega]; exact HF.out⟩⟩
  · have d0 : decide ((n : Int) > 4096) = true := decide_eq_true (by omega)
    go_enter Try.func8, Try.ntmps8
    go_wp2
    go_ret
    exact FitsPost.no w S n

/-- What zzScriptInDomain asks. -/
def DomM (m : Clm) : Prop := (m.place = -1 ∨ 1 ≤ m.place) ∧ ∀ s ∈ m.key, s.2 = true → s.1 = ByteArray.empty
def DomK (key : Key) (j : Nat) : Prop := ∀ i s, i < j → key[i]? = some s → s.2 = true → s.1 = ByteArray.empty
def DomS (S : List Clm) (k : Nat) : Prop := ∀ i m, i < k → S[i]? = some m → DomM m

theorem nil_bytes {b : ByteArray} (h : b.size = 0) : b = ByteArray.empty := by
  obtain ⟨⟨l⟩⟩ := b
  cases l with
  | nil => rfl
  | cons x t => exact absurd h (by simp [ByteArray.size])

def DomPost (w : World) (S : List Clm) (n : Nat) (r : Ending) (w' : World) : Prop := ∃ b, r = .returned (.bool b) ∧ w = w' ∧ (b = true → DomS S n)
theorem nil_toList {b : ByteArray} (h : b.toList = []) : b = ByteArray.empty := by
  apply nil_bytes
  rw [ByteArray.toList_eq] at h
  show b.data.size = 0
  rw [← Array.length_toList, h]
  rfl
theorem DomPost.no (w : World) (S : List Clm) (n : Nat) : DomPost w S n (.returned (.bool false)) w := ⟨_, rfl, rfl, fun hh => by cases hh⟩

set_option maxRecDepth 100000 in
set_option maxHeartbeats 4000000 in
theorem domain_any (w : World) (v : Value) (S : List Clm) (h : ScrArg w v S) (hbig : S.length ≤ 4096) (hlk : ∀ m ∈ S, m.key.length ≤ 65536) : Calls Try.prog 9 #[v] w fun r w' => DomPost w S S.length r w' := by
  obtain ⟨ad, cp, rfl, _, hS⟩ := h
  obtain ⟨n, hn'⟩ : ∃ n, n = S.length := ⟨_, rfl⟩
  rw [← hn'] at hS hbig ⊢
  have HS : Hid (0 < n → ∃ a, ad = some a ∧ ∀ i m, S[i]? = some m → (∃ kv, w.cell? (a.add (i * 3)) = some kv ∧ KeyArg w kv m.key) ∧ w.cell? (a.add (i * 3 + 1)) = some (.int .i64 m.place) ∧ w.cell? (a.add (i * 3 + 2)) = some (.bool m.deny)) := hS
  have HN : Hid (n = S.length) := hn'
  have HLK : Hid (∀ m ∈ S, m.key.length ≤ 65536) := hlk
  clear hS hn' hlk
  go_enter Try.func9, Try.ntmps9
  go_wp2
  go_loopw [3] (fun i wr => ∃ (k : Nat), i = .int .i64 k ∧ k ≤ n ∧ w = wr ∧ Hid (DomS S k)) (fun i _ => n - (intOf i).toNat)
  case atStart => exact ⟨0, rfl, by omega, rfl, fun i m hi => by omega⟩
  case round =>
    obtain ⟨k, rfl, hk, rfl, HF⟩ := hrel
    by_cases h1 : k < n
    · obtain ⟨a, rfl, hS⟩ := HS.out (by omega)
      obtain ⟨m, hm⟩ : ∃ m, S[k]? = some m := ⟨_, List.getElem?_eq_getElem (by rw [← HN.out]; exact h1)⟩
      obtain ⟨⟨kv, c0, ad2, cp2, rfl, _, hK⟩, c1, c2⟩ := hS k m hm
      have HM : Hid (S[k]? = some m) := hm
      clear hS
      have hi0 : (0 : Int) ≤ (k : Int) := by omega
      have hi1 : (k : Int) < (n : Int) := by omega
      have d1 : decide ((k : Int) < (n : Int)) = true := decide_eq_true hi1
      have h2 := HLK.out m (List.mem_of_getElem? hm)
      obtain ⟨l, hl⟩ : ∃ l, l = m.key.length := ⟨_, rfl⟩
      rw [← hl] at hK c0 h2
      have HK : Hid (0 < l → ∃ a, ad2 = some a ∧ ∀ i s, m.key[i]? = some s → w.cell? (a.add (i * 2)) = some (.string s.1) ∧ w.cell? (a.add (i * 2 + 1)) = some (.bool s.2)) := hK
      have HL : Hid (l = m.key.length) := hl
      clear hK hl hm
      obtain ⟨pc, hpc⟩ : ∃ pc, pc = m.place := ⟨_, rfl⟩
      rw [← hpc] at c1
      have c1 : w.cell? ⟨(a.add (k * 3)).block, (a.add (k * 3)).off + 1, none⟩ = some (.int .i64 pc) := by rw [at_field a (k * 3) 0]; exact c1
      have HPC : Hid (pc = m.place) := hpc
      clear hpc
      by_cases hp1 : pc = -1
      · subst hp1
        go_wp2
        go_loopw [6] (fun i wr => ∃ (j : Nat), i = .int .i64 j ∧ j ≤ l ∧ w = wr ∧ Hid (DomK m.key j)) (fun i _ => l - (intOf i).toNat)
        case atStart => exact ⟨0, rfl, by omega, rfl, fun i m hi => by omega⟩
        case round =>
          obtain ⟨j, rfl, hj, rfl, HJ⟩ := hrel
          by_cases h3 : j < l
          · obtain ⟨a2, rfl, hK⟩ := HK.out (by omega)
            obtain ⟨⟨s, e⟩, hs⟩ : ∃ s, m.key[j]? = some s := ⟨_, List.getElem?_eq_getElem (by rw [← HL.out]; exact h3)⟩
            obtain ⟨k0, k1⟩ := hK j _ hs
            have k1 : w.cell? ⟨(a2.add (j * 2)).block, (a2.add (j * 2)).off + 1, none⟩ = some (.bool e) := by rw [at_field a2 (j * 2) 0]; exact k1
            have HSs : Hid (m.key[j]? = some (s, e)) := hs
            clear hK hs
            have hj0 : (0 : Int) ≤ (j : Int) := by omega
            have hj1 : (j : Int) < (l : Int) := by omega
            have d3 : decide ((j : Int) < (l : Int)) = true := decide_eq_true hj1
            have hstep : (e = true → s = ByteArray.empty) → Hid (DomK m.key (j + 1)) := by
              intro hh i s' hi hs'
              by_cases e : i = j
              · subst e
                rw [HSs.out] at hs'; injection hs' with hs'; subst hs'; exact hh
              · exact HJ.out i s' (by omega) hs'
            cases e with
            | false =>
              have HJ1 := hstep (fun hh => by cases hh)
              clear hstep
              go_wp2
              go_roundw
              case rel => exact ⟨j + 1, by go_num, by omega, by first | rfl | trivial, HJ1⟩
              case measure => simp [intOf]; omega
            | true =>
              by_cases hse : s = ByteArray.empty
              · subst hse
                have HJ1 := hstep (fun _ => rfl)
                clear hstep
                go_wp2
                go_roundw
                case rel => exact ⟨j + 1, by go_num, by omega, by first | rfl | trivial, HJ1⟩
                case measure => simp [intOf]; omega
              · clear hstep
                have hse2 : s.toList.isEmpty = false := by
                  cases hh : s.toList with
                  | nil => exact absurd (nil_toList hh) hse
                  | cons x t => rfl
                go_wp2
                go_ret
                exact DomPost.no w S n
          · have d3 : decide ((j : Int) < (l : Int)) = false := decide_eq_false (by omega)
            have HF1 : Hid (DomS S (k + 1)) := by
              intro i m' hi hm'
              by_cases e : i = k
              · subst e
                rw [HM.out] at hm'; injection hm' with hm'; subst hm'
                refine ⟨.inl HPC.out.symm, fun s hs => ?_⟩
                obtain ⟨q, hq⟩ := List.mem_iff_getElem?.1 hs
                refine HJ.out q s ?_ hq
                have := (List.getElem?_eq_some_iff.1 hq).1
                have := HL.out
                omega
              · exact HF.out i m' (by omega) hm'
            go_wp2
            go_roundw
            case rel => exact ⟨k + 1, by go_num, by omega, by first | rfl | trivial, HF1⟩
            case measure => simp [intOf]; omega
      · have hp1' : (pc != -1) = true := by rw [bne_iff_ne]; exact hp1
        by_cases hp2 : 1 ≤ pc
        · have d6 : decide (pc < 1) = false := decide_eq_false (by omega)
          go_wp2
          go_loopw [6] (fun i wr => ∃ (j : Nat), i = .int .i64 j ∧ j ≤ l ∧ w = wr ∧ Hid (DomK m.key j)) (fun i _ => l - (intOf i).toNat)
          case atStart => exact ⟨0, rfl, by omega, rfl, fun i m hi => by omega⟩
          case round =>
            obtain ⟨j, rfl, hj, rfl, HJ⟩ := hrel
            by_cases h3 : j < l
            · obtain ⟨a2, rfl, hK⟩ := HK.out (by omega)
              obtain ⟨⟨s, e⟩, hs⟩ : ∃ s, m.key[j]? = some s := ⟨_, List.getElem?_eq_getElem (by rw [← HL.out]; exact h3)⟩
              obtain ⟨k0, k1⟩ := hK j _ hs
              have k1 : w.cell? ⟨(a2.add (j * 2)).block, (a2.add (j * 2)).off + 1, none⟩ = some (.bool e) := by rw [at_field a2 (j * 2) 0]; exact k1
              have HSs : Hid (m.key[j]? = some (s, e)) := hs
              clear hK hs
              have hj0 : (0 : Int) ≤ (j : Int) := by omega
              have hj1 : (j : Int) < (l : Int) := by omega
              have d3 : decide ((j : Int) < (l : Int)) = true := decide_eq_true hj1
              have hstep : (e = true → s = ByteArray.empty) → Hid (DomK m.key (j + 1)) := by
                intro hh i s' hi hs'
                by_cases e : i = j
                · subst e
                  rw [HSs.out] at hs'; injection hs' with hs'; subst hs'; exact hh
                · exact HJ.out i s' (by omega) hs'
              cases e with
              | false =>
                have HJ1 := hstep (fun hh => by cases hh)
                clear hstep
                go_wp2
                go_roundw
                case rel => exact ⟨j + 1, by go_num, by omega, by first | rfl | trivial, HJ1⟩
                case measure => simp [intOf]; omega
              | true =>
                by_cases hse : s = ByteArray.empty
                · subst hse
                  have HJ1 := hstep (fun _ => rfl)
                  clear hstep
                  go_wp2
                  go_roundw
                  case rel => exact ⟨j + 1, by go_num, by omega, by first | rfl | trivial, HJ1⟩
                  case measure => simp [intOf]; omega
                · clear hstep
                  have hse2 : s.toList.isEmpty = false := by
                    cases hh : s.toList with
                    | nil => exact absurd (nil_toList hh) hse
                    | cons x t => rfl
                  go_wp2
                  go_ret
                  exact DomPost.no w S n
            · have d3 : decide ((j : Int) < (l : Int)) = false := decide_eq_false (by omega)
              have HF1 : Hid (DomS S (k + 1)) := by
                intro i m' hi hm'
                by_cases e : i = k
                · subst e
                  rw [HM.out] at hm'; injection hm' with hm'; subst hm'
                  refine ⟨.inr (by rw [← HPC.out]; exact hp2), fun s hs => ?_⟩
                  obtain ⟨q, hq⟩ := List.mem_iff_getElem?.1 hs
                  refine HJ.out q s ?_ hq
                  have := (List.getElem?_eq_some_iff.1 hq).1
                  have := HL.out
                  omega
                · exact HF.out i m' (by omega) hm'
              go_wp2
              go_roundw
              case rel => exact ⟨k + 1, by go_num, by omega, by first | rfl | trivial, HF1⟩
              case measure => simp [intOf]; omega
        · have d6 : decide (pc < 1) = true := decide_eq_true (by omega)
          go_wp2
          go_ret
          exact DomPost.no w S n
    · have d1 : decide ((k : Int) < (n : Int)) = false := decide_eq_false (by omega)
      go_wp2
      go_ret
      exact ⟨_, rfl, rfl, fun _ => by rw [show n = k from by omega]; exact HF.out⟩
end Go.Proofs.Qxb6602090a
