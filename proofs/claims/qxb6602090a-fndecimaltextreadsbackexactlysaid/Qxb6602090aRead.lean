/-
  Seat b6602090a: zzReadDecimal (22) at a canonical numeral.
-/
import Derived.Test.Qxb6602090aRows
import Derived.WalkKit
import Derived.ProofKit
import Derived.OpenShut
import Derived.ShutString
import Derived.Handy
import Derived.PlainAid
import Derived.WalkSpells
import Derived.WalkLawsBesides
import Derived.Deep.QuietTactic
import Derived.BigQuiet
namespace Go.Proofs.Qxb6602090a
open Go.RowKit Go.PlainAid

set_option maxRecDepth 100000 in
set_option maxHeartbeats 2000000 in
theorem read_pA (t wS aS : ByteArray) (e1 lead z : Nat) (hn : t.size ≤ 1000000) (hs : 0 < e1) (he : e1 ≤ t.size) (he2 : ¬ e1 < t.size)
    (hd : ∀ k, 0 ≤ k → k < e1 → 48 ≤ bt t k ∧ bt t k ≤ 57) (hw : t.extract 0 e1 = wS) (hws : 0 < wS.size) (hws2 : wS.size ≤ 1000000)
    (h0 : bt wS 0 ≠ 48) (ha : wS ++ (⟨#[]⟩ : ByteArray) = aS)
    (hl : lead < z) (hz : z ≤ aS.size) (has : aS.size ≤ 2000000) (hlead : ∀ k, k < lead → bt aS k = 48) (hle : bt aS lead ≠ 48) (hzz : ∀ k, z ≤ k → k < aS.size → bt aS k = 48) (hze : bt aS (z-1) ≠ 48) (w : World) :
    Calls Try.prog 22 #[.string t] w fun e w' => e = .returned (.tuple #[.bool false, .string (aS.extract lead z), .int .i64 ((wS.size : Int) - lead), .bool true]) ∧ Below w.heap.size w w' := by
  have hb := get_bt t
  have hbw := get_bt wS
  have hba := get_bt aS
  have hwx : (bt wS 0 == 48) = false := by rw [beq_eq_false_iff_ne]; exact h0
  have hd0 := hd 0 (Nat.le_refl _) hs
  have hx0 : (bt t 0 == 45) = false := by rw [beq_eq_false_iff_ne]; omega
  clear hd0
  have hpos : 0 < t.size := by omega
  have HD : Hid (∀ k, 0 ≤ k → k < e1 → 48 ≤ bt t k ∧ bt t k ≤ 57) := hd
  have HZ : Hid (∀ k, z ≤ k → k < aS.size → bt aS k = 48) := hzz
  have HL : Hid (∀ k, k < lead → bt aS k = 48) := hlead
  have HLE : Hid (bt aS lead ≠ 48) := hle
  have HZE : Hid (bt aS (z-1) ≠ 48) := hze
  clear hd hzz hlead hle hze
  go_enter Try.func22, Try.ntmps22
  go_wp2
  go_loop [6] (fun i => ∃ k : Nat, 0 ≤ k ∧ k ≤ e1 ∧ i = .int .i64 k) (fun i => e1 - (intOf i).toNat)
  case atStart => exact ⟨0, by omega, by omega, rfl⟩
  case round =>
    obtain ⟨k, hk0, hk, rfl⟩ := hrel
    by_cases hlt : k < e1
    · have hdk := HD.out k hk0 hlt
      have hkn : k < t.size := by omega
      go_wp2
      go_round
      case rel => exact ⟨k + 1, by omega, by omega, by go_num⟩
      case measure => simp [intOf]; omega
    · have : k = e1 := by omega
      subst this
      clear HD hlt hk
      go_wp2
      go_loop [13] (fun i => ∃ q : Nat, q ≤ lead ∧ i = .int .i64 q) (fun i => lead - (intOf i).toNat)
      case atStart => exact ⟨0, by omega, rfl⟩
      case round =>
        obtain ⟨q, hq, rfl⟩ := hrel
        by_cases hlt : q < lead
        · have hq48 : (bt aS q == 48) = true := by rw [beq_iff_eq]; exact HL.out q hlt
          have hqn : q < aS.size := by omega
          go_wp2
          go_round
          case rel => exact ⟨q + 1, by omega, by go_num⟩
          case measure => simp [intOf]; omega
        · have : q = lead := by omega
          subst this
          clear hlt hq HL
          have hq48 : (bt aS q == 48) = false := by rw [beq_eq_false_iff_ne]; exact HLE.out
          have hqn : q < aS.size := by omega
          go_wp2
          clear hq48
          go_loop [14] (fun i => ∃ r : Nat, z ≤ r ∧ r ≤ aS.size ∧ i = .int .i64 r) (fun i => (intOf i).toNat)
          case atStart => exact ⟨_, by omega, Nat.le_refl _, rfl⟩
          case round =>
            obtain ⟨r, hr0, hr, rfl⟩ := hrel
            by_cases hlt : z < r
            · have hr48 : (bt aS (r - 1) == 48) = true := by rw [beq_iff_eq]; exact HZ.out (r-1) (by omega) (by omega)
              have hr1 : 1 ≤ r := by omega
              have hqr : q < r := by omega
              go_wp2
              go_round
              case rel => exact ⟨r - 1, by omega, by omega, by go_num⟩
              case measure => simp [intOf]; omega
            · have : r = z := by omega
              subst this
              have hr48 : (bt aS (r - 1) == 48) = false := by rw [beq_eq_false_iff_ne]; exact HZE.out
              have hr1 : 1 ≤ r := by omega
              clear hlt hr0 HZ HZE HLE
              go_wp2
              go_quiet (fail)
              go_wp2
              refine bodyPost_ret (v := .tuple #[.bool false, .string (aS.extract q r), .int .i64 ((wS.size : Int) - q), .bool true]) (by simp [results, Try.results22, go_sem]) rfl ⟨rfl, ?_⟩
              exact below_drewN (Below.refl _ _) _

set_option maxRecDepth 100000 in
set_option maxHeartbeats 2000000 in
theorem read_nA (t wS aS : ByteArray) (e1 lead z : Nat) (hn : t.size ≤ 1000000) (hs : 1 < e1) (he : e1 ≤ t.size) (he2 : ¬ e1 < t.size)
    (hd : ∀ k, 1 ≤ k → k < e1 → 48 ≤ bt t k ∧ bt t k ≤ 57) (hsg : bt t 0 = 45) (hw : t.extract 1 e1 = wS) (hws : 0 < wS.size) (hws2 : wS.size ≤ 1000000)
    (h0 : bt wS 0 ≠ 48) (ha : wS ++ (⟨#[]⟩ : ByteArray) = aS)
    (hl : lead < z) (hz : z ≤ aS.size) (has : aS.size ≤ 2000000) (hlead : ∀ k, k < lead → bt aS k = 48) (hle : bt aS lead ≠ 48) (hzz : ∀ k, z ≤ k → k < aS.size → bt aS k = 48) (hze : bt aS (z-1) ≠ 48) (w : World) :
    Calls Try.prog 22 #[.string t] w fun e w' => e = .returned (.tuple #[.bool true, .string (aS.extract lead z), .int .i64 ((wS.size : Int) - lead), .bool true]) ∧ Below w.heap.size w w' := by
  have hb := get_bt t
  have hbw := get_bt wS
  have hba := get_bt aS
  have hwx : (bt wS 0 == 48) = false := by rw [beq_eq_false_iff_ne]; exact h0
  have hx0 : (bt t 0 == 45) = true := by rw [beq_iff_eq]; exact hsg
  clear hsg
  have hpos : 0 < t.size := by omega
  have HD : Hid (∀ k, 1 ≤ k → k < e1 → 48 ≤ bt t k ∧ bt t k ≤ 57) := hd
  have HZ : Hid (∀ k, z ≤ k → k < aS.size → bt aS k = 48) := hzz
  have HL : Hid (∀ k, k < lead → bt aS k = 48) := hlead
  have HLE : Hid (bt aS lead ≠ 48) := hle
  have HZE : Hid (bt aS (z-1) ≠ 48) := hze
  clear hd hzz hlead hle hze
  go_enter Try.func22, Try.ntmps22
  go_wp2
  go_loop [6] (fun i => ∃ k : Nat, 1 ≤ k ∧ k ≤ e1 ∧ i = .int .i64 k) (fun i => e1 - (intOf i).toNat)
  case atStart => exact ⟨1, by omega, by omega, rfl⟩
  case round =>
    obtain ⟨k, hk0, hk, rfl⟩ := hrel
    by_cases hlt : k < e1
    · have hdk := HD.out k hk0 hlt
      have hkn : k < t.size := by omega
      go_wp2
      go_round
      case rel => exact ⟨k + 1, by omega, by omega, by go_num⟩
      case measure => simp [intOf]; omega
    · have : k = e1 := by omega
      subst this
      clear HD hlt hk
      go_wp2
      go_loop [13] (fun i => ∃ q : Nat, q ≤ lead ∧ i = .int .i64 q) (fun i => lead - (intOf i).toNat)
      case atStart => exact ⟨0, by omega, rfl⟩
      case round =>
        obtain ⟨q, hq, rfl⟩ := hrel
        by_cases hlt : q < lead
        · have hq48 : (bt aS q == 48) = true := by rw [beq_iff_eq]; exact HL.out q hlt
          have hqn : q < aS.size := by omega
          go_wp2
          go_round
          case rel => exact ⟨q + 1, by omega, by go_num⟩
          case measure => simp [intOf]; omega
        · have : q = lead := by omega
          subst this
          clear hlt hq HL
          have hq48 : (bt aS q == 48) = false := by rw [beq_eq_false_iff_ne]; exact HLE.out
          have hqn : q < aS.size := by omega
          go_wp2
          clear hq48
          go_loop [14] (fun i => ∃ r : Nat, z ≤ r ∧ r ≤ aS.size ∧ i = .int .i64 r) (fun i => (intOf i).toNat)
          case atStart => exact ⟨_, by omega, Nat.le_refl _, rfl⟩
          case round =>
            obtain ⟨r, hr0, hr, rfl⟩ := hrel
            by_cases hlt : z < r
            · have hr48 : (bt aS (r - 1) == 48) = true := by rw [beq_iff_eq]; exact HZ.out (r-1) (by omega) (by omega)
              have hr1 : 1 ≤ r := by omega
              have hqr : q < r := by omega
              go_wp2
              go_round
              case rel => exact ⟨r - 1, by omega, by omega, by go_num⟩
              case measure => simp [intOf]; omega
            · have : r = z := by omega
              subst this
              have hr48 : (bt aS (r - 1) == 48) = false := by rw [beq_eq_false_iff_ne]; exact HZE.out
              have hr1 : 1 ≤ r := by omega
              clear hlt hr0 HZ HZE HLE
              go_wp2
              go_quiet (fail)
              go_wp2
              refine bodyPost_ret (v := .tuple #[.bool true, .string (aS.extract q r), .int .i64 ((wS.size : Int) - q), .bool true]) (by simp [results, Try.results22, go_sem]) rfl ⟨rfl, ?_⟩
              exact below_drewN (Below.refl _ _) _

set_option maxRecDepth 100000 in
set_option maxHeartbeats 2000000 in
theorem read_pB (t wS fS aS : ByteArray) (e1 lead z : Nat) (hn : t.size ≤ 1000000) (hs : 0 < e1) (he : e1 < t.size)
    (hd : ∀ k, 0 ≤ k → k < e1 → 48 ≤ bt t k ∧ bt t k ≤ 57) (hw : t.extract 0 e1 = wS) (hws : 0 < wS.size) (hws2 : wS.size ≤ 1000000)
    (hdot : bt t e1 = 46) (hfn : e1 + 1 < t.size) (hfd : ∀ k, e1 + 1 ≤ k → k < t.size → 48 ≤ bt t k ∧ bt t k ≤ 57) (hf : t.extract (e1+1) t.size = fS) (hfs : 0 < fS.size) (hfs2 : fS.size ≤ 1000000) (hfl : bt fS (fS.size - 1) ≠ 48) (hw0 : bt wS 0 = 48 → wS.size = 1) (ha : wS ++ fS = aS)
    (hl : lead < z) (hz : z ≤ aS.size) (has : aS.size ≤ 2000000) (hlead : ∀ k, k < lead → bt aS k = 48) (hle : bt aS lead ≠ 48) (hzz : ∀ k, z ≤ k → k < aS.size → bt aS k = 48) (hze : bt aS (z-1) ≠ 48) (w : World) :
    Calls Try.prog 22 #[.string t] w fun e w' => e = .returned (.tuple #[.bool false, .string (aS.extract lead z), .int .i64 ((wS.size : Int) - lead), .bool true]) ∧ Below w.heap.size w w' := by
  have hb := get_bt t
  have hbw := get_bt wS
  have hbf := get_bt fS
  have hba := get_bt aS
  have hfx : (bt fS (fS.size - 1) == 48) = false := by rw [beq_eq_false_iff_ne]; exact hfl
  have hd0 := hd 0 (Nat.le_refl _) hs
  have hx0 : (bt t 0 == 45) = false := by rw [beq_eq_false_iff_ne]; omega
  clear hd0
  have hpos : 0 < t.size := by omega
  have HD : Hid (∀ k, 0 ≤ k → k < e1 → 48 ≤ bt t k ∧ bt t k ≤ 57) := hd
  have HZ : Hid (∀ k, z ≤ k → k < aS.size → bt aS k = 48) := hzz
  have HL : Hid (∀ k, k < lead → bt aS k = 48) := hlead
  have HLE : Hid (bt aS lead ≠ 48) := hle
  have HZE : Hid (bt aS (z-1) ≠ 48) := hze
  clear hd hzz hlead hle hze
  have HF : Hid (∀ k, e1 + 1 ≤ k → k < t.size → 48 ≤ bt t k ∧ bt t k ≤ 57) := hfd
  clear hfd hfl
  go_enter Try.func22, Try.ntmps22
  go_wp2
  go_loop [6] (fun i => ∃ k : Nat, 0 ≤ k ∧ k ≤ e1 ∧ i = .int .i64 k) (fun i => e1 - (intOf i).toNat)
  case atStart => exact ⟨0, by omega, by omega, rfl⟩
  case round =>
    obtain ⟨k, hk0, hk, rfl⟩ := hrel
    by_cases hlt : k < e1
    · have hdk := HD.out k hk0 hlt
      have hkn : k < t.size := by omega
      go_wp2
      go_round
      case rel => exact ⟨k + 1, by omega, by omega, by go_num⟩
      case measure => simp [intOf]; omega
    · have : k = e1 := by omega
      subst this
      clear HD hlt hk
      go_wp2
      go_loop [6] (fun i => ∃ j : Nat, k + 1 ≤ j ∧ j ≤ t.size ∧ i = .int .i64 j) (fun i => t.size - (intOf i).toNat)
      case atStart => exact ⟨k + 1, by omega, by omega, by go_num⟩
      case round =>
        obtain ⟨j, hj0, hj, rfl⟩ := hrel
        by_cases hlt : j < t.size
        · have hdj := HF.out j hj0 hlt
          go_wp2
          go_round
          case rel => exact ⟨j + 1, by omega, by omega, by go_num⟩
          case measure => simp [intOf]; omega
        · have : j = t.size := by omega
          subst this
          clear HF hlt hj hj0
          by_cases hwz : bt wS 0 = 48
          all_goals
            go_wp2
            go_loop [13] (fun i => ∃ q : Nat, q ≤ lead ∧ i = .int .i64 q) (fun i => lead - (intOf i).toNat)
            case atStart => exact ⟨0, by omega, rfl⟩
            case round =>
              obtain ⟨q, hq, rfl⟩ := hrel
              by_cases hlt : q < lead
              · have hq48 : (bt aS q == 48) = true := by rw [beq_iff_eq]; exact HL.out q hlt
                have hqn : q < aS.size := by omega
                go_wp2
                go_round
                case rel => exact ⟨q + 1, by omega, by go_num⟩
                case measure => simp [intOf]; omega
              · have : q = lead := by omega
                subst this
                clear hlt hq HL
                have hq48 : (bt aS q == 48) = false := by rw [beq_eq_false_iff_ne]; exact HLE.out
                have hqn : q < aS.size := by omega
                go_wp2
                clear hq48
                go_loop [14] (fun i => ∃ r : Nat, z ≤ r ∧ r ≤ aS.size ∧ i = .int .i64 r) (fun i => (intOf i).toNat)
                case atStart => exact ⟨_, by omega, Nat.le_refl _, rfl⟩
                case round =>
                  obtain ⟨r, hr0, hr, rfl⟩ := hrel
                  by_cases hlt : z < r
                  · have hr48 : (bt aS (r - 1) == 48) = true := by rw [beq_iff_eq]; exact HZ.out (r-1) (by omega) (by omega)
                    have hr1 : 1 ≤ r := by omega
                    have hqr : q < r := by omega
                    go_wp2
                    go_round
                    case rel => exact ⟨r - 1, by omega, by omega, by go_num⟩
                    case measure => simp [intOf]; omega
                  · have : r = z := by omega
                    subst this
                    have hr48 : (bt aS (r - 1) == 48) = false := by rw [beq_eq_false_iff_ne]; exact HZE.out
                    have hr1 : 1 ≤ r := by omega
                    clear hlt hr0 HZ HZE HLE
                    go_wp2
                    go_quiet (fail)
                    go_wp2
                    refine bodyPost_ret (v := .tuple #[.bool false, .string (aS.extract q r), .int .i64 ((wS.size : Int) - q), .bool true]) (by simp [results, Try.results22, go_sem]; try (have := hw0 hwz; omega)) rfl ⟨rfl, ?_⟩
                    exact below_drewN (Below.refl _ _) _

set_option maxRecDepth 100000 in
set_option maxHeartbeats 2000000 in
theorem read_nB (t wS fS aS : ByteArray) (e1 lead z : Nat) (hn : t.size ≤ 1000000) (hs : 1 < e1) (he : e1 < t.size)
    (hd : ∀ k, 1 ≤ k → k < e1 → 48 ≤ bt t k ∧ bt t k ≤ 57) (hsg : bt t 0 = 45) (hw : t.extract 1 e1 = wS) (hws : 0 < wS.size) (hws2 : wS.size ≤ 1000000)
    (hdot : bt t e1 = 46) (hfn : e1 + 1 < t.size) (hfd : ∀ k, e1 + 1 ≤ k → k < t.size → 48 ≤ bt t k ∧ bt t k ≤ 57) (hf : t.extract (e1+1) t.size = fS) (hfs : 0 < fS.size) (hfs2 : fS.size ≤ 1000000) (hfl : bt fS (fS.size - 1) ≠ 48) (hw0 : bt wS 0 = 48 → wS.size = 1) (ha : wS ++ fS = aS)
    (hl : lead < z) (hz : z ≤ aS.size) (has : aS.size ≤ 2000000) (hlead : ∀ k, k < lead → bt aS k = 48) (hle : bt aS lead ≠ 48) (hzz : ∀ k, z ≤ k → k < aS.size → bt aS k = 48) (hze : bt aS (z-1) ≠ 48) (w : World) :
    Calls Try.prog 22 #[.string t] w fun e w' => e = .returned (.tuple #[.bool true, .string (aS.extract lead z), .int .i64 ((wS.size : Int) - lead), .bool true]) ∧ Below w.heap.size w w' := by
  have hb := get_bt t
  have hbw := get_bt wS
  have hbf := get_bt fS
  have hba := get_bt aS
  have hfx : (bt fS (fS.size - 1) == 48) = false := by rw [beq_eq_false_iff_ne]; exact hfl
  have hx0 : (bt t 0 == 45) = true := by rw [beq_iff_eq]; exact hsg
  clear hsg
  have hpos : 0 < t.size := by omega
  have HD : Hid (∀ k, 1 ≤ k → k < e1 → 48 ≤ bt t k ∧ bt t k ≤ 57) := hd
  have HZ : Hid (∀ k, z ≤ k → k < aS.size → bt aS k = 48) := hzz
  have HL : Hid (∀ k, k < lead → bt aS k = 48) := hlead
  have HLE : Hid (bt aS lead ≠ 48) := hle
  have HZE : Hid (bt aS (z-1) ≠ 48) := hze
  clear hd hzz hlead hle hze
  have HF : Hid (∀ k, e1 + 1 ≤ k → k < t.size → 48 ≤ bt t k ∧ bt t k ≤ 57) := hfd
  clear hfd hfl
  go_enter Try.func22, Try.ntmps22
  go_wp2
  go_loop [6] (fun i => ∃ k : Nat, 1 ≤ k ∧ k ≤ e1 ∧ i = .int .i64 k) (fun i => e1 - (intOf i).toNat)
  case atStart => exact ⟨1, by omega, by omega, rfl⟩
  case round =>
    obtain ⟨k, hk0, hk, rfl⟩ := hrel
    by_cases hlt : k < e1
    · have hdk := HD.out k hk0 hlt
      have hkn : k < t.size := by omega
      go_wp2
      go_round
      case rel => exact ⟨k + 1, by omega, by omega, by go_num⟩
      case measure => simp [intOf]; omega
    · have : k = e1 := by omega
      subst this
      clear HD hlt hk
      go_wp2
      go_loop [6] (fun i => ∃ j : Nat, k + 1 ≤ j ∧ j ≤ t.size ∧ i = .int .i64 j) (fun i => t.size - (intOf i).toNat)
      case atStart => exact ⟨k + 1, by omega, by omega, by go_num⟩
      case round =>
        obtain ⟨j, hj0, hj, rfl⟩ := hrel
        by_cases hlt : j < t.size
        · have hdj := HF.out j hj0 hlt
          go_wp2
          go_round
          case rel => exact ⟨j + 1, by omega, by omega, by go_num⟩
          case measure => simp [intOf]; omega
        · have : j = t.size := by omega
          subst this
          clear HF hlt hj hj0
          by_cases hwz : bt wS 0 = 48
          all_goals
            go_wp2
            go_loop [13] (fun i => ∃ q : Nat, q ≤ lead ∧ i = .int .i64 q) (fun i => lead - (intOf i).toNat)
            case atStart => exact ⟨0, by omega, rfl⟩
            case round =>
              obtain ⟨q, hq, rfl⟩ := hrel
              by_cases hlt : q < lead
              · have hq48 : (bt aS q == 48) = true := by rw [beq_iff_eq]; exact HL.out q hlt
                have hqn : q < aS.size := by omega
                go_wp2
                go_round
                case rel => exact ⟨q + 1, by omega, by go_num⟩
                case measure => simp [intOf]; omega
              · have : q = lead := by omega
                subst this
                clear hlt hq HL
                have hq48 : (bt aS q == 48) = false := by rw [beq_eq_false_iff_ne]; exact HLE.out
                have hqn : q < aS.size := by omega
                go_wp2
                clear hq48
                go_loop [14] (fun i => ∃ r : Nat, z ≤ r ∧ r ≤ aS.size ∧ i = .int .i64 r) (fun i => (intOf i).toNat)
                case atStart => exact ⟨_, by omega, Nat.le_refl _, rfl⟩
                case round =>
                  obtain ⟨r, hr0, hr, rfl⟩ := hrel
                  by_cases hlt : z < r
                  · have hr48 : (bt aS (r - 1) == 48) = true := by rw [beq_iff_eq]; exact HZ.out (r-1) (by omega) (by omega)
                    have hr1 : 1 ≤ r := by omega
                    have hqr : q < r := by omega
                    go_wp2
                    go_round
                    case rel => exact ⟨r - 1, by omega, by omega, by go_num⟩
                    case measure => simp [intOf]; omega
                  · have : r = z := by omega
                    subst this
                    have hr48 : (bt aS (r - 1) == 48) = false := by rw [beq_eq_false_iff_ne]; exact HZE.out
                    have hr1 : 1 ≤ r := by omega
                    clear hlt hr0 HZ HZE HLE
                    go_wp2
                    go_quiet (fail)
                    go_wp2
                    refine bodyPost_ret (v := .tuple #[.bool true, .string (aS.extract q r), .int .i64 ((wS.size : Int) - q), .bool true]) (by simp [results, Try.results22, go_sem]; try (have := hw0 hwz; omega)) rfl ⟨rfl, ?_⟩
                    exact below_drewN (Below.refl _ _) _

end Go.Proofs.Qxb6602090a
