/- The reference's Written of one value of any kind. -/
import Derived.Test.YtobponaenabpgaaWrItem3
namespace Go.Proofs.Ytobponaenabpgaa.Rd
open Go.ChangeShapes Go.WideShapes Go.ChangeAt Go.RowKit Sv Go.Proofs.YtobponaenabpgaaW Go.Proofs.YtobponaenabpgaaW.PrintWords
set_option linter.unusedVariables false

theorem written_any (k : Nat) (hk : k ≤ 6) (n : Int) (h0 : 0 ≤ n) (h1 : n ≤ 18446744073709551615) (a : Option Addr) (l : List Int) (c : Nat) (hl : l.length ≤ 40000) (hn : a = none → c = 0) (w : World) (h : Holds8 w a l) :
    Calls Try.prog 30 #[.agg #[.int .i64 k, .int .u64 n, .slice a l.length c]] w (RowPost (encIt k n l) w) := by
  match k, hk with
  | 0, _ => exact written_0 n h0 h1 a _ c w
  | 1, _ => exact written_1 n h0 h1 a _ c w
  | 2, _ => exact written_2 n h0 h1 a _ c w
  | 3, _ => exact written_3 n h0 h1 a _ c w
  | 4, _ => exact written_4 n h0 h1 a _ c w
  | k + 5, hk =>
    have hk' : ((k + 5 : Nat) : Int) = 5 ∨ ((k + 5 : Nat) : Int) = 6 := by omega
    have he : encIt (k + 5) n l = sev l.length ++ l := rfl
    rw [he]
    cases a with
    | some ad => exact written_raw _ hk' n ad l c hl w h
    | none =>
      obtain rfl := hn rfl
      obtain rfl : l = [] := by
        rcases Nat.eq_zero_or_pos l.length with h2 | h2
        · exact List.eq_nil_of_length_eq_zero h2
        · obtain ⟨ad, e, _⟩ := h.2.2 h2
          cases e
      rw [List.append_nil]
      exact written_nil _ hk' n w

end Go.Proofs.Ytobponaenabpgaa.Rd
