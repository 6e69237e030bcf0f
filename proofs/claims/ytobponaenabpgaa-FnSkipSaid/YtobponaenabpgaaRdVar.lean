/- Contracts of the buffer's reading of numbers by sevens. -/
import Derived.Test.YtobponaenabpgaaSvWalks
import Derived.Test.YtobponaenabpgaaRdPure
import Derived.Test.YtobponaenabpgaaBelow
import Derived.WalkMore
namespace Go.Proofs.Ytobponaenabpgaa.Rd
open Go.ChangeShapes Go.WideShapes Go.ChangeAt Go.RowKit Sv Go.Proofs.YtobponaenabpgaaW Go.Proofs.YtobponaenabpgaaW.PrintWords
set_option linter.unusedVariables false

/-- A buffer in block B over the bytes b, read up to i. -/
structure IsBuf (w : World) (B : Nat) (A : Option Addr) (cap : Nat) (b : List Int) (i : Nat) : Prop where
  c0 : w.cell? ⟨B, 0, none⟩ = some (.slice A b.length cap)
  c1 : w.cell? ⟨B, 1, none⟩ = some (.int .i64 i)
  f1 : w.frozen? ⟨B, 1, none⟩ = false
  le : i ≤ b.length
  small : b.length ≤ 100000
  room : b.length ≤ cap
  holds : Holds8 w A b
  ne : ∀ ad, A = some ad → ∃ g, ad = ⟨g, 0, none⟩ ∧ g ≠ B

def moved (w : World) (B i : Nat) : World := w.setCell ⟨B, 1, none⟩ (.int .i64 i)

theorem moved_eq (w : World) (B i : Nat) (x : Int) (h : (i : Int) = x) : moved w B i = w.setCell ⟨B, 1, none⟩ (.int .i64 x) := by rw [← h]; rfl

def ErrPost (w : World) (e : Ending) (w' : World) : Prop := ∃ x s, e = .returned (.tuple #[.int .u64 x, .iface 111 (.string s)]) ∧ w = w'

theorem slow_some (w : World) (B : Nat) (A : Option Addr) (cap : Nat) (b : List Int) (i : Nat) (h : IsBuf w B A cap b i) (hl : b.length - i ≤ 9) (hk : lead (b.drop i) < (b.drop i).length) :
    Calls Try.prog 74 #[.pointer (some ⟨B, 0, none⟩)] w fun e w' => e = .returned (.tuple #[.int .u64 (V ((b.drop i).take (lead (b.drop i) + 1))), .nilIface]) ∧ moved w B (i + lead (b.drop i) + 1) = w' := by
  obtain ⟨c0, c1, f1, le, small, room, ⟨hB, hm, hc0⟩, ne⟩ := h
  have hrl : (b.drop i).length = b.length - i := List.length_drop
  obtain ⟨ad, rfl, hc⟩ := hc0 (by omega)
  have HC := Lib.hid hc
  have HL := Lib.hid (lead_hi (b.drop i))
  have HO := Lib.hid (lead_lo _ hk)
  have HD := Lib.hid (drop_at b i)
  have HR := Lib.hid hrl
  have hBr := bytes_drop hB i
  have hkl : lead (b.drop i) < b.length - i := by omega
  generalize hr : b.drop i = r at *
  generalize hkk : lead r = k at *
  have HK := Lib.hid hk
  clear hc hc0 ne hr hkk hk hrl
  go_enter Try.func74, Try.ntmps74
  go_wp2
  go_loop [2, 3, 4, 6] (fun x er n s => ∃ j : Nat, j ≤ k ∧ n = .int .i64 (i + j) ∧ s = .int .u64 (7 * j) ∧ x = .int .u64 (V (r.take j)) ∧ er = .nilIface) (fun _ _ n _ => b.length - (intOf n).toNat)
  case atStart => exact ⟨0, Nat.zero_le _, by simp, rfl, by simp [V], rfl⟩
  case round =>
    obtain ⟨j, hj, rfl, rfl, rfl, rfl⟩ := hrel
    have hcell := HC.out (i + j) (by omega)
    rw [← HD.out j] at hcell
    have hb := at8_bd hBr j
    have ha := and127 (at8 r j) (by omega) (by omega)
    have hjr : j < r.length := by have := HK.out; omega
    by_cases e : j = k
    · subst e
      have hlo := HO.out
      have HS := Lib.hid (step_eq hBr hjr (.inl (by omega)))
      go_wp2
      go_returns
      rw [HS.out]
      exact ⟨rfl, moved_eq w B _ _ (by omega)⟩
    · have h128 := HL.out j (by omega)
      have HS := Lib.hid (step_eq hBr hjr (.inl (by omega)))
      go_wp2
      go_round
      case rel => exact ⟨j + 1, by omega, by go_num, by go_num, by rw [HS.out], rfl⟩
      case measure => simp [intOf]; omega

theorem slow_none (w : World) (B : Nat) (A : Option Addr) (cap : Nat) (b : List Int) (i : Nat) (h : IsBuf w B A cap b i) (hl : b.length - i ≤ 9) (hk : lead (b.drop i) = (b.drop i).length) :
    Calls Try.prog 74 #[.pointer (some ⟨B, 0, none⟩)] w (ErrPost w) := by
  obtain ⟨c0, c1, f1, le, small, room, ⟨hB, hm, hc0⟩, ne⟩ := h
  have hrl : (b.drop i).length = b.length - i := List.length_drop
  have HC := Lib.hid hc0
  have HL := Lib.hid (lead_hi (b.drop i))
  have HD := Lib.hid (drop_at b i)
  have hBr := bytes_drop hB i
  generalize hr : b.drop i = r at *
  have HK := Lib.hid hk
  have HR := Lib.hid hrl
  clear hc0 ne hr hk hrl
  go_enter Try.func74, Try.ntmps74
  go_wp2
  go_loop [2, 3, 4, 6] (fun x er n s => ∃ (j : Nat), i + j ≤ b.length ∧ n = .int .i64 (i + j) ∧ s = .int .u64 (7 * j) ∧ x = .int .u64 (V (r.take j)) ∧ er = .nilIface) (fun _ _ n _ => b.length - (intOf n).toNat)
  case atStart => exact ⟨0, by omega, by simp, rfl, by simp [V], rfl⟩
  case round =>
    obtain ⟨j, hj, rfl, rfl, rfl, rfl⟩ := hrel
    by_cases e : i + j < b.length
    · obtain ⟨ad, rfl, hc⟩ := HC.out (by omega)
      have hcell := hc (i + j) e
      clear hc
      rw [← HD.out j] at hcell
      have hb := at8_bd hBr j
      have ha := and127 (at8 r j) (by omega) (by omega)
      have hjr : j < r.length := by have := HR.out; omega
      have h128 := HL.out j (by have := HK.out; omega)
      have HS := Lib.hid (step_eq hBr hjr (.inl (by omega)))
      go_wp2
      go_round
      case rel => exact ⟨j + 1, by omega, by go_num, by go_num, by rw [HS.out], rfl⟩
      case measure => simp [intOf]; omega
    · go_wp2
      go_returns
      exact ⟨_, _, rfl, rfl⟩

end Go.Proofs.Ytobponaenabpgaa.Rd
