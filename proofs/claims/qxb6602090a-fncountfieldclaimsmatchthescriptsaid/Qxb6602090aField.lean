/-
  Seat b6602090a: the walk of countField (24).
-/
import Derived.Test.Qxb6602090aWalk24
namespace Go.Proofs.Qxb6602090a
open Go.RowKit Go.Maps

def lenV (v : Value) : Nat := match v with | .slice _ l _ => l | _ => 0

/-- The loop's relation. -/
def Rel (w : World) (T : Tree) (r c : Nat) (S : List Clm) (m : Clm) (K : Nat) (n : Nat) (va vr : Value) (wr : World) : Prop :=
  ∃ a o cp j T' c' da, j ≤ n ∧ va = .pointer (some ⟨a, 0, none⟩) ∧ vr = .slice (some ⟨K, o, none⟩) (n - j) cp ∧ (j < n → o = j * 2 ∧ cp = n - j) ∧ Lp w T r c S m K wr T' c' j a da

/-- Midway in a round: the next node down, y, ends at step j'. -/
def Mid (w : World) (T : Tree) (r c : Nat) (S : List Clm) (m : Clm) (K j j' y : Nat) (w2 : World) : Prop :=
  ∃ T2 c2 dy, St w2 T2 r c2 S (pcl S m j) ∧ T2 y = some dy ∧ dy.path = m.key.take j' ∧ (∀ b d, T2 b = some d → d.path <+: m.key → j < d.path.length → d.path.length ≤ j' → d.path.length = j') ∧ Ex w T w2 T2 ∧ c2 ≤ c + j' ∧ KeyRow w2 K m.key
theorem Mid.quiet {w : World} {T : Tree} {r c : Nat} {S : List Clm} {m : Clm} {K j j' y : Nat} {w2 w3 : World} (h : Mid w T r c S m K j j' y w2) (hw : Fr (fun _ => False) w2 w3) : Mid w T r c S m K j j' y w3 := by
  obtain ⟨T2, c2, dy, h1, h2, h3, h4, h5, h6, h7⟩ := h
  exact ⟨T2, c2, dy, h1.quiet hw, h2, h3, h4, h5.trans (Ex.quiet _ hw), h6, h7.keep (hw.block _ h7.lt (fun f => f))⟩
theorem Mid.pass {w : World} {T : Tree} {r c : Nat} {S : List Clm} {m : Clm} {K j j' y n : Nat} {w2 : World} (h : Mid w T r c S m K j j' y w2) (hn : n = m.key.length) (hj : j' < n) (hjj : j < j') :
    Calls Try.prog 31 #[.pointer (some ⟨y, 4, none⟩), .int .i64 m.place, .bool m.deny, .bool true] w2 fun v w' => v = .returned (.tuple #[]) ∧ Rel w T r c S m K n (.pointer (some ⟨y, 0, none⟩)) (.slice (some ⟨K, j' * 2, none⟩) (n - j') (n - j')) w' := by
  obtain ⟨T2, c2, dy, h1, h2, h3, h4, h5, h6, h7⟩ := h
  refine (count_pass h1 (by omega) hjj h2 h3 h4 h5 h6 h7).mono ?_
  rintro v w' ⟨rfl, T', c', dx', h⟩
  exact ⟨rfl, y, j' * 2, n - j', j', T', c', dx', by omega, rfl, rfl, fun _ => ⟨rfl, rfl⟩, h⟩
theorem Mid.land {w : World} {T : Tree} {r c : Nat} {S : List Clm} {m : Clm} {K j j' y n o cp : Nat} {w2 : World} (h : Mid w T r c S m K j j' y w2) (hn : n = m.key.length) (hj : j' = n) (hjj : j ≤ j') :
    Rel w T r c S m K n (.pointer (some ⟨y, 0, none⟩)) (.slice (some ⟨K, o, none⟩) 0 cp) w2 := by
  obtain ⟨T2, c2, dy, h1, h2, h3, h4, h5, h6, h7⟩ := h
  exact ⟨y, o, cp, j', T2, c2, dy, by omega, rfl, by rw [hj, Nat.sub_self], fun hh => by omega, h1.land (by omega) hjj h4, h2, h3, h7, h5, h6⟩
/-- The next node down, whole. -/
theorem Lp.mid {w : World} {T : Tree} {r c : Nat} {S : List Clm} {m : Clm} {K : Nat} {wr w1 : World} {T' : Tree} {c' j a x : Nat} {da dn : Nd} {st : Step} (h : Lp w T r c S m K wr T' c' j a da) (hw : Fr (fun _ => False) wr w1) (hx : T' x = some dn) (hpar : dn.par = some a) (hst : dn.fst = some st) (hmk : m.key[j]? = some st)
    (hj : j + dn.elen ≤ m.key.length) (hp : dn.path = m.key.take (j + dn.elen)) : Mid w T r c S m K j (j + dn.elen) x w1 :=
  ⟨T', c', dn, h.st.quiet hw, hx, hp, h.st.next h.ha h.path hj hx hpar hst hmk, h.ex.trans (Ex.quiet _ hw), by have := h.bound; omega, h.row.keep (hw.block _ h.row.lt (fun f => f))⟩
/-- .. cut. -/
theorem Lp.cut {w : World} {T : Tree} {r c : Nat} {S : List Clm} {m : Clm} {K : Nat} {wr w1 : World} {T' : Tree} {c' j a x sh : Nat} {da dn : Nd} (h : Lp w T r c S m K wr T' c' j a da) (hw : Fr (fun _ => False) wr w1) (hc : c' < 1000000000) (h0 : ∀ m ∈ S, m.place ≠ 0) (hx : T' x = some dn) (hpar : dn.par = some a)
    (hj : j + sh ≤ m.key.length) (hs0 : 0 < sh) (hs1 : sh < dn.elen) (hmade : dn.path.take (dn.path.length - dn.elen + sh) = m.key.take (j + sh)) :
    Calls Try.prog 30 #[.pointer (some ⟨x, 0, none⟩), .int .i64 (sh : Int)] w1 fun v w' => ∃ y, v = .returned (.pointer (some ⟨y, 0, none⟩)) ∧ Mid w T r c S m K j (j + sh) y w' := by
  refine (split_st (h.st.quiet hw) hc h0 h.ha h.path hj hx hpar hs0 hs1 hmade).mono ?_
  rintro v w' ⟨y, rfl, T2, dy, h1, h2, h3, h4, h5⟩
  have hrow := h.row.keep (hw.block _ h.row.lt (fun f => f))
  exact ⟨y, rfl, T2, c' + 1, dy, h3, h1, h2, h5, (h.ex.trans (Ex.quiet _ hw)).trans h4, by have := h.bound; omega, hrow.ex (h.st.quiet hw) h4⟩

/-- The next node x down: what the round needs to know of it. -/
theorem Lp.down {w : World} {T : Tree} {r c : Nat} {S : List Clm} {m : Clm} {K n l : Nat} {wr : World} {T' : Tree} {c' j a x : Nat} {da : Nd} {st : Step} (h : Lp w T r c S m K wr T' c' j a da) (hn : n = m.key.length) (hl : l = n - j) (hj : j < n) (hlen : n ≤ 65536) (hc : c' < 1000000000) (h0 : ∀ m ∈ S, m.place ≠ 0) (hmk : m.key[j]? = some st) (hx : Child T' a st x) :
    ∃ k o e cp sh : Nat, 0 < sh ∧ sh ≤ l ∧ sh ≤ e ∧
      (∀ w1, Fr (fun _ => False) wr w1 → w1.cell? ⟨x, 0, none⟩ = some (.slice (some ⟨k, o, none⟩) e cp) ∧ Calls Try.prog 29 #[.slice (some ⟨k, o, none⟩) e cp, .slice (some ⟨K, j * 2, none⟩) l l] w1 fun v w' => v = .returned (.int .i64 (sh : Int)) ∧ ∃ q, w' = w1.drewN q) ∧
      (sh < e → ∀ w1, Fr (fun _ => False) wr w1 → Calls Try.prog 30 #[.pointer (some ⟨x, 0, none⟩), .int .i64 (sh : Int)] w1 fun v w' => ∃ y, v = .returned (.pointer (some ⟨y, 0, none⟩)) ∧ Mid w T r c S m K j (j + sh) y w') ∧
      (¬ sh < e → ∀ w1, Fr (fun _ => False) wr w1 → Mid w T r c S m K j (j + sh) x w1) := by
  obtain ⟨dn, hx, hpar, hfst⟩ := hx
  have hxr : x ≠ r := by
    rintro rfl
    obtain ⟨d, k1, _, k3, _⟩ := h.st.ok.root
    rw [hx] at k1; injection k1 with k1; subst k1
    rw [k3] at hpar; cases hpar
  obtain ⟨p, dp, q1, q2, q3, q4, q5⟩ := h.st.ok.par x dn hx hxr
  rw [hpar] at q1; injection q1 with q1; subst q1
  rw [h.ha] at q2; injection q2 with q2; subst q2
  have hjl : da.path.length = j := by rw [h.path, List.length_take, ← hn]; omega
  have hdl : dn.path.length = j + dn.elen := by
    have := congrArg List.length q5
    rw [List.length_take] at this; omega
  obtain ⟨ks, hKn, r1, r2, r3⟩ := h.st.rep.edge x dn hx q3
  have hcell := h.st.rep.cell x dn hx
  have he : edgeV dn = .slice (some ⟨dn.K, dn.o * 2, none⟩) dn.elen dn.cap := by unfold edgeV; rw [if_neg (by omega)]
  rw [he] at hcell
  obtain ⟨A, hA⟩ : ∃ A, A = dn.path.drop (dn.path.length - dn.elen) := ⟨_, rfl⟩
  obtain ⟨B, hBd⟩ : ∃ B, B = m.key.drop j := ⟨_, rfl⟩
  have hAl : A.length = dn.elen := by rw [hA, List.length_drop]; omega
  have hBl : B.length = l := by rw [hBd, List.length_drop, ← hn, hl]
  have hSA := hKn.steps (A := A) (o := dn.o) (fun i st hi => by
    have hil := (List.getElem?_eq_some_iff.1 hi).1
    rw [hA, ← r3, List.getElem?_take_of_lt (by omega), List.getElem?_drop] at hi
    exact hi)
  have hSB := h.row.steps (A := B) (o := j) (fun i st hi => by rw [hBd, List.getElem?_drop] at hi; exact hi)
  obtain ⟨sh, hsh⟩ : ∃ sh, sh = lcp A B := ⟨_, rfl⟩
  obtain ⟨u1, u2, u3⟩ := lcp_le A B
  have u4 : 0 < lcp A B := lcp_pos (a := st) (by rw [hA, List.getElem?_drop]; exact hfst) (by rw [hBd, List.getElem?_drop]; exact hmk)
  rw [← hsh] at u1 u2 u3 u4
  rw [hAl] at u1
  rw [hBl] at u2
  have hmade : dn.path.take (dn.path.length - dn.elen + sh) = m.key.take (j + sh) := by
    rw [List.take_add, List.take_add, ← hA, ← hBd, u3, ← q5, h.path]
  refine ⟨dn.K, dn.o * 2, dn.elen, dn.cap, sh, u4, u2, u1, fun w1 hF1 => ⟨?_, ?_⟩, fun hcut w1 hF1 => ?_, fun hcut w1 hF1 => ?_⟩
  · exact (node_get ((hF1.block x (blk_lt hcell) (fun f => f)).trans hcell)).1
  · have hSA1 : StepsAt w1 dn.K (dn.o * 2) A := by
      have hb := hF1.block dn.K hKn.lt (fun f => f)
      intro i st hi
      rw [World.cell?_of_block (w := wr) (a := ⟨dn.K, _, none⟩) hb, World.cell?_of_block (w := wr) (a := ⟨dn.K, _, none⟩) hb]
      exact hSA i st hi
    have hSB1 : StepsAt w1 K (j * 2) B := by
      have hb := hF1.block K h.row.lt (fun f => f)
      intro i st hi
      rw [World.cell?_of_block (w := wr) (a := ⟨K, _, none⟩) hb, World.cell?_of_block (w := wr) (a := ⟨K, _, none⟩) hb]
      exact hSB i st hi
    have HSh := shared_any w1 dn.K (dn.o * 2) dn.cap K (j * 2) l A B hSA1 hSB1 (by omega)
    rw [hAl, hBl, ← hsh] at HSh
    exact HSh
  · exact h.cut hF1 hc h0 hx hpar (by omega) u4 hcut hmade
  · have hse : sh = dn.elen := by omega
    rw [hse]
    exact h.mid hF1 hx hpar hfst hmk (by omega) (by rw [← hse, ← hmade, hse, List.take_of_length_le (by omega)])

set_option maxRecDepth 100000 in
set_option maxHeartbeats 4000000 in
theorem countField_any (w : World) (T : Tree) (r c : Nat) (S : List Clm) (m : Clm) (K n : Nat) (hn : n = m.key.length) (h : St w T r c S (claimsOf S)) (hc : c + n + 1 < 1000000000) (h0 : ∀ m ∈ S, m.place ≠ 0) (hd : ∀ s ∈ m.key, StepOk s) (hK : KeyRow w K m.key) (hlen : n ≤ 65536) :
    Calls Try.prog 24 #[.pointer (some ⟨r, 0, none⟩), .slice (some ⟨K, 0, none⟩) n n, .int .i64 m.place, .bool m.deny] w fun v w' => ∃ a, v = .returned (.pointer (some ⟨a, 0, none⟩)) ∧ CountPost w T r c S m w' a := by
  have HS : Hid (Rel w T r c S m K n (.pointer (some ⟨r, 0, none⟩)) (.slice (some ⟨K, 0, none⟩) n n) w) := by
    obtain ⟨dr, h1, h2, _⟩ := h.ok.root
    exact ⟨r, 0, n, 0, T, c, dr, by omega, rfl, rfl, fun _ => ⟨rfl, rfl⟩, h.start m, h1, by rw [h2]; rfl, hK, Ex.refl _ _, by omega⟩
  have H0 : Hid (∀ m ∈ S, m.place ≠ 0) := h0
  have HD : Hid (∀ s ∈ m.key, StepOk s) := hd
  have HN : Hid (n = m.key.length) := hn
  clear h h0 hd hK hn
  go_enter Try.func24, Try.ntmps24
  go_wp2
  go_loopw [9, 10] (fun va vr wr => Hid (Rel w T r c S m K n va vr wr)) (fun _ vr _ => lenV vr)
  case atStart => exact HS
  case round =>
    obtain ⟨a, o, cp, j, T', c', da, hj, rfl, rfl, hpos, hL⟩ := hrel.out
    have HL : Hid (Lp w T r c S m K wr T' c' j a da) := hL
    clear hrel hL
    by_cases h1 : j < n
    · obtain ⟨rfl, rfl⟩ := hpos h1
      obtain ⟨l, hl⟩ : ∃ l, l = n - j := ⟨_, rfl⟩
      have hl0 : 0 < l := by omega
      have hl1 : (0 : Int) < (l : Int) := by omega
      have d1 : decide ((l : Int) > 0) = true := decide_eq_true (by omega)
      obtain ⟨⟨s, e⟩, hst⟩ : ∃ st, m.key[j]? = some st := ⟨_, List.getElem?_eq_getElem (by rw [← HN.out]; exact h1)⟩
      have HST : Hid (m.key[j]? = some (s, e)) := hst
      obtain ⟨k0, k1⟩ := (HL.out.row.steps (A := m.key) (o := 0) (fun i s hi => by rw [Nat.zero_add]; exact hi)) j (s, e) hst
      rw [Nat.zero_mul, Nat.zero_add] at k0 k1
      have hso : StepOk (s, e) := HD.out _ (List.mem_of_getElem? hst)
      obtain ⟨ob, hob, Hb⟩ := below_st HL.out.st HL.out.ha hso
      have HSO : Hid (StepOk (s, e)) := hso
      have HOB : Hid (∀ y, ob = some y ↔ Child T' a (s, e) y) := hob
      clear hso hob hst hpos
      rw [← hl]
      have HLN : Hid (l = n - j) := hl
      clear hl
      cases ob with
      | none =>
        have HB : Calls Try.prog 27 #[.pointer (some ⟨a, 0, none⟩), .agg #[.string s, .bool e]] wr fun r w' => r = .returned (.pointer none) ∧ Below wr.heap.size wr w' := Hb
        clear Hb
        go_wp2_with fail
        refine HB.mono ?_
        rintro v w1 ⟨rfl, hB1⟩
        clear HB
        have hF1 : Fr (fun _ => False) wr w1 := Fr.ofBelow hB1
        have HLF := leaf_st (HL.out.st.quiet hF1) (by have := HL.out.bound; omega) HL.out.ha HL.out.path (by rw [← HN.out]; exact h1) HD.out HST.out (fun y hy => by cases (HOB.out y).2 hy) (HL.out.row.keep (hF1.block _ HL.out.row.lt (fun f => f)))
        rw [← HN.out, ← HLN.out] at HLF
        have HF1 : Hid (Fr (fun _ => False) wr w1) := hF1
        clear hF1 hB1
        go_wp2_with fail
        refine HLF.mono ?_
        rintro v w2 ⟨rfl, T2, dx, g1, g2, g3, g4, g5⟩
        clear HLF
        have HE := count_end (w0 := w) (T0 := T) (c0 := c) g4 g1 g2 ((HL.out.ex.trans (Ex.quiet _ HF1.out)).trans g5) (by have := HL.out.bound; have := HN.out; omega)
        clear g1 g2 g3 g4 g5
        go_wp2_with fail
        refine HE.mono ?_
        rintro v w' ⟨rfl, hP⟩
        have HP : Hid (CountPost w T r c S m w' w1.heap.size) := hP
        clear hP HE
        go_wp2_with fail
        go_ret
        exact ⟨_, rfl, HP.out⟩
      | some x =>
        obtain ⟨k, o1, e1, cp1, sh, u4, u2, u1, hsh, hcutc, hmid⟩ := HL.out.down HN.out HLN.out h1 hlen (by have := HL.out.bound; omega) H0.out HST.out ((HOB.out x).1 rfl)
        have HCut : Hid (sh < e1 → ∀ w1, Fr (fun _ => False) wr w1 → Calls Try.prog 30 #[.pointer (some ⟨x, 0, none⟩), .int .i64 (sh : Int)] w1 fun v w' => ∃ y, v = .returned (.pointer (some ⟨y, 0, none⟩)) ∧ Mid w T r c S m K j (j + sh) y w') := hcutc
        have HM0 : Hid (¬ sh < e1 → ∀ w1, Fr (fun _ => False) wr w1 → Mid w T r c S m K j (j + sh) x w1) := hmid
        have HSh : Hid (∀ w1, Fr (fun _ => False) wr w1 → w1.cell? ⟨x, 0, none⟩ = some (.slice (some ⟨k, o1, none⟩) e1 cp1) ∧ Calls Try.prog 29 #[.slice (some ⟨k, o1, none⟩) e1 cp1, .slice (some ⟨K, j * 2, none⟩) l l] w1 fun v w' => v = .returned (.int .i64 (sh : Int)) ∧ ∃ q, w' = w1.drewN q) := hsh
        have HB : Calls Try.prog 27 #[.pointer (some ⟨a, 0, none⟩), .agg #[.string s, .bool e]] wr fun r w' => r = .returned (.pointer (some ⟨x, 0, none⟩)) ∧ Below wr.heap.size wr w' := Hb
        clear Hb hcutc hmid hsh
        go_wp2_with fail
        refine HB.mono ?_
        rintro v w1 ⟨rfl, hB1⟩
        clear HB
        have HF1 : Hid (Fr (fun _ => False) wr w1) := Fr.ofBelow hB1
        obtain ⟨c0, Hs⟩ := HSh.out w1 HF1.out
        clear hB1
        go_wp2_with fail
        refine Hs.mono ?_
        rintro v w2 ⟨rfl, kk, hw2⟩
        have HF2 : Hid (Fr (fun _ => False) wr w2) := by rw [hw2]; exact HF1.out.trans (Fr.drewN _ _ _)
        clear hw2 Hs c0
        have c0 := (HSh.out w2 HF2.out).1
        have hs0 : (0 : Int) ≤ (sh : Int) := by omega
        have hs1 : (sh : Int) ≤ (l : Int) := by omega
        by_cases hcut : sh < e1
        · by_cases hend : j + sh < n
          · have HC := HCut.out hcut w2 HF2.out
            have dcut : decide ((sh : Int) < (e1 : Int)) = true := decide_eq_true (by omega)
            clear HM0
            go_wp2_with fail
            refine HC.mono ?_
            rintro v w3 ⟨y, rfl, hM⟩
            have HM : Hid (Mid w T r c S m K j (j + sh) y w3) := hM
            clear hM HC c0
            have hlt : sh < l := by have := HLN.out; omega
            have hsf := fun W => slice_from K (j * 2) l l sh u2 hlt W
            have d5 : decide (((l - sh : Nat) : Int) > 0) = true := decide_eq_true (by omega)
            have HQ : Hid (∀ W, Fr (fun _ => False) w3 W → Calls Try.prog 31 #[.pointer (some ⟨y, 4, none⟩), .int .i64 m.place, .bool m.deny, .bool true] W fun v w' => v = .returned (.tuple #[]) ∧ Rel w T r c S m K n (.pointer (some ⟨y, 0, none⟩)) (.slice (some ⟨K, (j + sh) * 2, none⟩) (n - (j + sh)) (n - (j + sh))) w') := fun W hW => (HM.out.quiet hW).pass HN.out hend (by omega)
            clear hend
            go_wp2_with fail
            go_quiet (fail)
            go_wp2_with fail
            refine (HQ.out _ (Fr.drewN _ _ _)).mono ?_
            rintro v w4 ⟨rfl, hR⟩
            have HR : Hid (Rel w T r c S m K n (.pointer (some ⟨y, 0, none⟩)) (.slice (some ⟨K, (j + sh) * 2, none⟩) (n - (j + sh)) (n - (j + sh))) w4) := hR
            clear hR HQ
            go_wp2_with fail
            go_roundw
            case rel => exact (by rw [show (j + sh) * 2 = j * 2 + sh * 2 from by omega, show n - (j + sh) = l - sh from by have := HLN.out; omega] at HR; exact HR)
            case measure => simp [lenV]; omega
          · have HC := HCut.out hcut w2 HF2.out
            have dcut : decide ((sh : Int) < (e1 : Int)) = true := decide_eq_true (by omega)
            clear HM0
            go_wp2_with fail
            refine HC.mono ?_
            rintro v w3 ⟨y, rfl, hM⟩
            have HM : Hid (Mid w T r c S m K j (j + sh) y w3) := hM
            clear hM HC c0
            have hsl : l = sh := by have := HLN.out; omega
            subst hsl
            have hse0 := fun W => slice_end K (j * 2) l W
            go_wp2_with fail
            go_quiet (fail)
            go_wp2_with fail
            go_roundw
            case rel => exact (HM.out.quiet (Fr.drewN _ _ _)).land HN.out (by have := HLN.out; omega) (by omega)
            case measure => simp [lenV]; omega
        · by_cases hend : j + sh < n
          · have dcut : decide ((sh : Int) < (e1 : Int)) = false := decide_eq_false (by omega)
            have HM : Hid (Mid w T r c S m K j (j + sh) x w2) := HM0.out hcut w2 HF2.out
            have hlt : sh < l := by have := HLN.out; omega
            have hsf := fun W => slice_from K (j * 2) l l sh u2 hlt W
            have d5 : decide (((l - sh : Nat) : Int) > 0) = true := decide_eq_true (by omega)
            have HQ : Hid (∀ W, Fr (fun _ => False) w2 W → Calls Try.prog 31 #[.pointer (some ⟨x, 4, none⟩), .int .i64 m.place, .bool m.deny, .bool true] W fun v w' => v = .returned (.tuple #[]) ∧ Rel w T r c S m K n (.pointer (some ⟨x, 0, none⟩)) (.slice (some ⟨K, (j + sh) * 2, none⟩) (n - (j + sh)) (n - (j + sh))) w') := fun W hW => (HM.out.quiet hW).pass HN.out hend (by omega)
            clear hend
            go_wp2_with fail
            go_quiet (fail)
            go_wp2_with fail
            refine (HQ.out _ (Fr.drewN _ _ _)).mono ?_
            rintro v w4 ⟨rfl, hR⟩
            have HR : Hid (Rel w T r c S m K n (.pointer (some ⟨x, 0, none⟩)) (.slice (some ⟨K, (j + sh) * 2, none⟩) (n - (j + sh)) (n - (j + sh))) w4) := hR
            clear hR HQ
            go_wp2_with fail
            go_roundw
            case rel => exact (by rw [show (j + sh) * 2 = j * 2 + sh * 2 from by omega, show n - (j + sh) = l - sh from by have := HLN.out; omega] at HR; exact HR)
            case measure => simp [lenV]; omega
          · have dcut : decide ((sh : Int) < (e1 : Int)) = false := decide_eq_false (by omega)
            have HM : Hid (Mid w T r c S m K j (j + sh) x w2) := HM0.out hcut w2 HF2.out
            have hsl : l = sh := by have := HLN.out; omega
            subst hsl
            have hse0 := fun W => slice_end K (j * 2) l W
            go_wp2_with fail
            go_quiet (fail)
            go_wp2_with fail
            go_roundw
            case rel => exact (HM.out.quiet (Fr.drewN _ _ _)).land HN.out (by have := HLN.out; omega) (by omega)
            case measure => simp [lenV]; omega
    · have hjn : j = n := by omega
      subst hjn
      rw [Nat.sub_self]
      have hend := fun w' (hw : Fr (fun _ => False) wr w') => count_end (w0 := w) (T0 := T) (c0 := c) (w := w') (by have := HL.out.st.quiet hw; rw [HN.out] at this; exact this) HL.out.ha (by rw [HL.out.path, HN.out, List.take_length]) (HL.out.ex.trans (Ex.quiet _ hw)) (by have := HL.out.bound; rw [HN.out] at this; omega)
      have HE := hend wr (Fr.refl _ _)
      clear hend hpos
      go_wp2_with fail
      refine HE.mono ?_
      rintro v w' ⟨rfl, hP⟩
      have HP : Hid (CountPost w T r c S m w' a) := hP
      clear hP HE
      go_wp2_with fail
      go_ret
      exact ⟨a, rfl, HP.out⟩
end Go.Proofs.Qxb6602090a
