/- A value's own part: the reference's Whole. -/
import Derived.Test.YtobponaenabpgaaWrItem2
namespace Go.Proofs.Ytobponaenabpgaa.Rd
open Go.ChangeShapes Go.WideShapes Go.ChangeAt Go.RowKit Sv Go.Proofs.YtobponaenabpgaaW Go.Proofs.YtobponaenabpgaaW.PrintWords
set_option linter.unusedVariables false

/-- What of a number is kept. -/
def wholeN (k : Nat) (n : Int) : Int := if k = 1 ∨ k = 3 then n % 4294967296 else n

def WholePost (k : Nat) (n : Int) (a : Option Addr) (m c : Nat) (w : World) (e : Ending) (w' : World) : Prop :=
  e = .returned (.agg #[.int .i64 k, .int .u64 (wholeN k n), .slice a m c]) ∧ Below w.heap.size w w'

set_option maxHeartbeats 1000000 in
set_option maxRecDepth 100000 in
theorem whole_any (k : Nat) (hk : k ≤ 6) (n : Int) (h0 : 0 ≤ n) (h1 : n ≤ 18446744073709551615) (a : Option Addr) (m c : Nat) (w : World) :
    Calls Try.prog 32 #[.agg #[.int .i64 k, .int .u64 n, .slice a m c]] w (WholePost k n a m c w) := by
  by_cases e1 : k = 1
  · subst e1
    go_enter Try.func32, Try.ntmps32
    go_wp2
    go_returns
    exact ⟨by simp [wholeN], by go_grown⟩
  · by_cases e3 : k = 3
    · subst e3
      go_enter Try.func32, Try.ntmps32
      go_wp2
      go_returns
      exact ⟨by simp [wholeN], by go_grown⟩
    · have i1 : ((k : Int) == 1) = false := by simp; omega
      have i3 : ((k : Int) == 3) = false := by simp; omega
      have HW : Hid (wholeN k n = n) := by unfold Hid wholeN; rw [if_neg (by omega)]
      go_enter Try.func32, Try.ntmps32
      go_wp2
      go_returns
      refine ⟨by rw [HW.out], by go_grown⟩

end Go.Proofs.Ytobponaenabpgaa.Rd
