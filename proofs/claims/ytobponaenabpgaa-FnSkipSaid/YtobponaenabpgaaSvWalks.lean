/- Contracts of the reading of numbers by sevens. -/
import Derived.Test.YtobponaenabpgaaRows
import Derived.Test.YtobponaenabpgaaWWords
import Derived.Test.YtobponaenabpgaaSvPure
import Derived.WalkKit
import Derived.ProofKit
import Derived.OpenShut
import Derived.Outline
import Derived.BigQuiet
import Derived.Deep.QuietTactic
import Derived.Below
import Derived.Lib.Hide
import Derived.RegionTactic
import Derived.Handy
import Derived.WalkLawsBesides
import Derived.Laws.BitsAllLaws
import Derived.LoopTactic
namespace Go.Proofs.Ytobponaenabpgaa.Sv
open Go.ChangeShapes Go.WideShapes Go.ChangeAt Go.RowKit Go.Proofs.YtobponaenabpgaaW.PrintWords
set_option linter.unusedVariables false

/-- The bytes that a slice holds. -/
def Holds8 (w : World) (a : Option Addr) (l : List Int) : Prop := Bytes8 l ∧ l.length ≤ 9223372036854775807 ∧ (0 < l.length → ∃ ad, a = some ad ∧ ∀ j, j < l.length → w.cell? (ad.add j) = some (.int .u8 (at8 l j)))

theorem read_good (a : Option Addr) (cap : Nat) (l : List Int) (w : World) (h : Holds8 w a l) (k : Nat) (hg : Good l k) :
    Calls Try.prog 11 #[.slice a l.length cap] w fun e w' => e = .returned (.tuple #[.int .u64 (V (l.take (k + 1))), .int .i64 ((k : Int) + 1)]) ∧ w = w' := by
  obtain ⟨hB, hm, hc0⟩ := h
  obtain ⟨hkl, hlead, hlast, h9⟩ := hg
  obtain ⟨ad, rfl, hc⟩ := hc0 (by omega)
  have HC := Lib.hid hc
  have HL := Lib.hid hlead
  clear hc hlead hc0
  go_enter Try.func11, Try.ntmps11
  go_wp2
  go_loop [2, 8] (fun x i => ∃ j : Nat, j ≤ k ∧ i = .int .i64 j ∧ x = .int .u64 (V (l.take j))) (fun _ i => l.length - (intOf i).toNat)
  case atStart => exact ⟨0, Nat.zero_le _, rfl, by simp [V]⟩
  case round =>
    obtain ⟨j, hj, rfl, rfl⟩ := hrel
    have hcell := HC.out j (by omega)
    have hb := at8_bd hB j
    have hlt : j < l.length := by omega
    by_cases e : j = k
    · subst e
      have HS := Lib.hid (step_eq hB hkl h9)
      by_cases h8 : j < 9
      · have e9 : ((j : Int) == 9) = false := by simp; omega
        clear h9
        go_wp2
        go_returns
        rw [HS.out]
        exact ⟨rfl, rfl⟩
      · have e9 : ((j : Int) == 9) = true := by simp; omega
        have h1 : at8 l j ≤ 1 := by omega
        have hj9 : j ≤ 9 := by omega
        have d1 : decide (1 < at8 l j) = false := by simp; omega
        have d2 : decide (9 < (j : Int)) = false := by simp; omega
        clear h9
        go_wp2
        go_returns
        rw [HS.out]
        exact ⟨rfl, rfl⟩
    · have h128 := HL.out j (by omega)
      have e9 : ((j : Int) == 9) = false := by simp; omega
      have HS := Lib.hid (step_eq hB hlt (.inl (by omega)))
      go_wp2
      go_round
      case rel => exact ⟨j + 1, by omega, by go_num, by rw [HS.out]⟩
      case measure => simp [intOf]; omega

theorem read_short (a : Option Addr) (cap : Nat) (l : List Int) (w : World) (h : Holds8 w a l) (hg : Short l) :
    Calls Try.prog 11 #[.slice a l.length cap] w fun e w' => e = .returned (.tuple #[.int .u64 0, .int .i64 0]) ∧ w = w' := by
  obtain ⟨hB, hm, hc0⟩ := h
  obtain ⟨h9, hlead⟩ := hg
  have HC := Lib.hid hc0
  have HL := Lib.hid hlead
  clear hc0 hlead
  go_enter Try.func11, Try.ntmps11
  go_wp2
  go_loop [2, 8] (fun x i => ∃ j : Nat, j ≤ l.length ∧ i = .int .i64 j ∧ x = .int .u64 (V (l.take j))) (fun _ i => l.length - (intOf i).toNat)
  case atStart => exact ⟨0, Nat.zero_le _, rfl, by simp [V]⟩
  case round =>
    obtain ⟨j, hj, rfl, rfl⟩ := hrel
    by_cases hlt : j < l.length
    · obtain ⟨ad, rfl, hc⟩ := HC.out (by omega)
      have hcell := hc j (by omega)
      clear hc
      have hb := at8_bd hB j
      have h128 := HL.out j (by omega)
      have e9 : ((j : Int) == 9) = false := by simp; omega
      have HS := Lib.hid (step_eq hB hlt (.inl (by omega)))
      go_wp2
      go_round
      case rel => exact ⟨j + 1, by omega, by go_num, by rw [HS.out]⟩
      case measure => simp [intOf]; omega
    · go_wp2
      go_returns
      exact ⟨rfl, rfl⟩

theorem read_over (a : Option Addr) (cap : Nat) (l : List Int) (w : World) (h : Holds8 w a l) (hg : Over l) :
    Calls Try.prog 11 #[.slice a l.length cap] w fun e w' => e = .returned (.tuple #[.int .u64 0, .int .i64 (-1)]) ∧ w = w' := by
  obtain ⟨hB, hm, hc0⟩ := h
  obtain ⟨h9, hlead, h1⟩ := hg
  obtain ⟨ad, rfl, hc⟩ := hc0 (by omega)
  have HC := Lib.hid hc
  have HL := Lib.hid hlead
  clear hc hlead hc0
  go_enter Try.func11, Try.ntmps11
  go_wp2
  go_loop [2, 8] (fun x i => ∃ j : Nat, j ≤ 9 ∧ i = .int .i64 j ∧ x = .int .u64 (V (l.take j))) (fun _ i => l.length - (intOf i).toNat)
  case atStart => exact ⟨0, Nat.zero_le _, rfl, by simp [V]⟩
  case round =>
    obtain ⟨j, hj, rfl, rfl⟩ := hrel
    have hcell := HC.out j (by omega)
    have hb := at8_bd hB j
    have hlt : j < l.length := by omega
    by_cases e : j = 9
    · have e9 : ((j : Int) == 9) = true := by simp; omega
      have d1 : decide (1 < at8 l j) = true := by subst e; simp; omega
      clear e
      go_wp2
      go_returns
      exact ⟨rfl, rfl⟩
    · have h128 := HL.out j (by omega)
      have e9 : ((j : Int) == 9) = false := by simp; omega
      have HS := Lib.hid (step_eq hB hlt (.inl (by omega)))
      go_wp2
      go_round
      case rel => exact ⟨j + 1, by omega, by go_num, by rw [HS.out]⟩
      case measure => simp [intOf]; omega

theorem dec_good (a : Option Addr) (cap : Nat) (l : List Int) (w : World) (h : Holds8 w a l) (k : Nat) (hg : Good l k) :
    Calls Try.prog 33 #[.slice a l.length cap] w fun e w' => e = .returned (.tuple #[.int .u64 (V (l.take (k + 1))), .int .i64 ((k : Int) + 1)]) ∧ w = w' := by
  obtain ⟨hB, hm, hc0⟩ := h
  obtain ⟨hkl, hlead, hlast, h9⟩ := hg
  obtain ⟨ad, rfl, hc⟩ := hc0 (by omega)
  have HC := Lib.hid hc
  have HL := Lib.hid hlead
  clear hc hlead hc0
  go_enter Try.func33, Try.ntmps33
  go_wp2
  go_loop [2, 3, 4] (fun x i s => ∃ j : Nat, j ≤ k ∧ i = .int .i64 j ∧ s = .int .u64 (7 * j) ∧ x = .int .u64 (V (l.take j))) (fun _ i _ => l.length - (intOf i).toNat)
  case atStart => exact ⟨0, Nat.zero_le _, rfl, rfl, by simp [V]⟩
  case round =>
    obtain ⟨j, hj, rfl, rfl, rfl⟩ := hrel
    have hcell := HC.out j (by omega)
    have hb := at8_bd hB j
    have hlt : j < l.length := by omega
    have ha := and127 (at8 l j) (by omega) (by omega)
    by_cases e : j = k
    · subst e
      have HS := Lib.hid (step_eq hB hkl h9)
      have hz := and128_lo (at8 l j) (by omega) (by omega)
      have hj9 : j ≤ 9 := by omega
      clear h9
      go_wp2
      go_returns
      rw [HS.out]
      exact ⟨rfl, rfl⟩
    · have h128 := HL.out j (by omega)
      have hz := and128_hi (at8 l j) (by omega) (by omega)
      have HS := Lib.hid (step_eq hB hlt (.inl (by omega)))
      go_wp2
      go_round
      case rel => exact ⟨j + 1, by omega, by go_num, by go_num, by rw [HS.out]⟩
      case measure => simp [intOf]; omega

theorem dec_short (a : Option Addr) (cap : Nat) (l : List Int) (w : World) (h : Holds8 w a l) (hg : Short l) :
    Calls Try.prog 33 #[.slice a l.length cap] w fun e w' => e = .returned (.tuple #[.int .u64 0, .int .i64 0]) ∧ w = w' := by
  obtain ⟨hB, hm, hc0⟩ := h
  obtain ⟨h9, hlead⟩ := hg
  have HC := Lib.hid hc0
  have HL := Lib.hid hlead
  clear hc0 hlead
  go_enter Try.func33, Try.ntmps33
  go_wp2
  go_loop [2, 3, 4] (fun x i s => ∃ j : Nat, j ≤ l.length ∧ i = .int .i64 j ∧ s = .int .u64 (7 * j) ∧ x = .int .u64 (V (l.take j))) (fun _ i _ => l.length - (intOf i).toNat)
  case atStart => exact ⟨0, Nat.zero_le _, rfl, rfl, by simp [V]⟩
  case round =>
    obtain ⟨j, hj, rfl, rfl, rfl⟩ := hrel
    by_cases hlt : j < l.length
    · obtain ⟨ad, rfl, hc⟩ := HC.out (by omega)
      have hcell := hc j (by omega)
      clear hc
      have hb := at8_bd hB j
      have ha := and127 (at8 l j) (by omega) (by omega)
      have h128 := HL.out j (by omega)
      have hz := and128_hi (at8 l j) (by omega) (by omega)
      have HS := Lib.hid (step_eq hB hlt (.inl (by omega)))
      go_wp2
      go_round
      case rel => exact ⟨j + 1, by omega, by go_num, by go_num, by rw [HS.out]⟩
      case measure => simp [intOf]; omega
    · go_wp2
      go_returns
      exact ⟨rfl, rfl⟩

def DecAny (w : World) (e : Ending) (w' : World) : Prop := ∃ y m, e = .returned (.tuple #[.int .u64 y, .int .i64 m]) ∧ w = w'

theorem dec_over (a : Option Addr) (cap : Nat) (l : List Int) (w : World) (h : Holds8 w a l) (hg : Over l) :
    Calls Try.prog 33 #[.slice a l.length cap] w (DecAny w) := by
  obtain ⟨hB, hm, hc0⟩ := h
  obtain ⟨h9, hlead, h1⟩ := hg
  obtain ⟨ad, rfl, hc⟩ := hc0 (by omega)
  have HC := Lib.hid hc
  have HL := Lib.hid hlead
  clear hc hlead hc0
  go_enter Try.func33, Try.ntmps33
  go_wp2
  go_loop [2, 3, 4] (fun x i s => ∃ (j : Nat) (y : Int), j ≤ 10 ∧ i = .int .i64 j ∧ s = .int .u64 (7 * j) ∧ x = .int .u64 y) (fun _ i _ => l.length - (intOf i).toNat)
  case atStart => exact ⟨0, 0, Nat.zero_le _, rfl, rfl, rfl⟩
  case round =>
    obtain ⟨j, y, hj, rfl, rfl, rfl⟩ := hrel
    by_cases e : j = 10
    · subst e
      go_wp2
      go_returns
      exact ⟨_, _, rfl, rfl⟩
    · have hlt : j < l.length := by omega
      have hcell := HC.out j (by omega)
      have hb := at8_bd hB j
      have ha := and127 (at8 l j) (by omega) (by omega)
      by_cases hz : at8 l j < 128
      · have hz := and128_lo (at8 l j) (by omega) (by omega)
        go_wp2
        go_returns
        exact ⟨_, _, rfl, rfl⟩
      · have hz := and128_hi (at8 l j) (by omega) (by omega)
        go_wp2
        go_round
        case rel => exact ⟨j + 1, _, by omega, by go_num, by go_num, rfl⟩
        case measure => simp [intOf]; omega

end Go.Proofs.Ytobponaenabpgaa.Sv
