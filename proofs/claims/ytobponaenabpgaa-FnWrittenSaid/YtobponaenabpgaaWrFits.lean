/- Whether a value's bytes fit. -/
import Derived.Test.YtobponaenabpgaaWrAny
namespace Go.Proofs.Ytobponaenabpgaa.Rd
open Go.ChangeShapes Go.WideShapes Go.ChangeAt Go.RowKit Sv Go.Proofs.YtobponaenabpgaaW Go.Proofs.YtobponaenabpgaaW.PrintWords
set_option linter.unusedVariables false

theorem fits2 (k n : Int) (a : Option Addr) (m c : Nat) (w : World) :
    Calls Try.prog 55 #[.agg #[.int .i64 k, .int .u64 n, .slice a m c]] w fun e w' => e = .returned (.bool (decide ((m : Int) ≤ 2147483647))) ∧ Below w.heap.size w w' := by
  by_cases h : (m : Int) ≤ 2147483647
  · have hd : decide ((m : Int) ≤ 2147483647) = true := by simp; omega
    go_enter Try.func55, Try.ntmps55
    go_wp2
    go_returns
    exact ⟨by simp [h], by go_grown⟩
  · have hd : decide ((m : Int) ≤ 2147483647) = false := by simp; omega
    go_enter Try.func55, Try.ntmps55
    go_wp2
    go_returns
    exact ⟨by simp, by go_grown⟩

end Go.Proofs.Ytobponaenabpgaa.Rd
