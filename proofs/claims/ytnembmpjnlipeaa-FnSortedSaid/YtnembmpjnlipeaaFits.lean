/- Whether the lists fit. -/
import Derived.Test.YtnembmpjnlipeaaTab
import Derived.Test.YtnembmpjnlipeaaProg
import Derived.Sort.EncStr
import Derived.WalkKit
import Derived.Lib.Hide
import Derived.Handy
import Derived.Outline
namespace Go.Proofs.Ytnembmpjnlipeaa.So
open Go.RowKit Go.Maps
set_option linter.unusedVariables false

def AnyBool (w : World) (e : Ending) (w' : World) : Prop := ∃ b : Bool, e = .returned (.bool b) ∧ w = w'
def AnyBoolB (w : World) (e : Ending) (w' : World) : Prop := ∃ b : Bool, e = .returned (.bool b) ∧ Below w.heap.size w w'

set_option maxHeartbeats 1000000 in
set_option maxRecDepth 100000 in
theorem fits5 (w : World) (a : Option Addr) (n c : Nat) (l : List (List UInt8)) (hl : l.length = n) (hn : n ≤ 9223372036854775807) (h : HoldsE encStr w a l) :
    Calls Try.prog 11 #[.slice a n c] w (AnyBool w) := by
  have HL := Lib.hid hl
  have HH := Lib.hid h
  clear hl h
  by_cases hs : (n : Int) ≤ 2147483647
  · go_enter Try.func11, Try.ntmps11
    go_wp2
    go_loop [10] (fun i => ∃ j : Nat, j ≤ n ∧ i = .int .i64 j) (fun i => n - (intOf i).toNat)
    case atStart => exact ⟨0, Nat.zero_le _, rfl⟩
    case round =>
      obtain ⟨j, hj, rfl⟩ := hrel
      by_cases hlt : j < n
      · obtain ⟨g, off, rfl, hc⟩ := HH.out (by have := HL.out; omega)
        obtain ⟨X, hX⟩ : ∃ X : ByteArray, (⟨(l[j]'(by have := HL.out; omega)).toArray⟩ : ByteArray) = X := ⟨_, rfl⟩
        have hcx : w.cell? ⟨g, off + j, none⟩ = some (.string X) := by rw [← hX]; exact hc j (by have := HL.out; omega)
        clear hc hX
        by_cases hm : (X.size : Int) ≤ 2147483647
        · go_wp2
          go_round
          case rel => exact ⟨j + 1, by omega, by go_num⟩
          case measure => simp [intOf]; omega
        · go_wp2
          go_returns
          exact ⟨_, rfl, rfl⟩
      · obtain rfl : j = n := by omega
        go_wp2
        go_returns
        exact ⟨_, rfl, rfl⟩
  · go_enter Try.func11, Try.ntmps11
    go_wp2
    go_returns
    exact ⟨_, rfl, rfl⟩

set_option maxHeartbeats 1000000 in
set_option maxRecDepth 100000 in
theorem fits4 (w : World) (A0 A1 A2 A3 A4 : Option Addr) (n0 n1 n2 n3 n4 c0 c1 c2 c3 c4 : Nat) (l : List (List UInt8)) (hl : l.length = n0) (m0 : n0 ≤ 9223372036854775807) (m1 : n1 ≤ 9223372036854775807) (m2 : n2 ≤ 9223372036854775807) (m3 : n3 ≤ 9223372036854775807) (m4 : n4 ≤ 9223372036854775807) (h : HoldsE encStr w A0 l) :
    Calls Try.prog 4 #[.agg #[.slice A0 n0 c0, .slice A1 n1 c1, .slice A2 n2 c2, .slice A3 n3 c3, .slice A4 n4 c4]] w (AnyBoolB w) := by
  have HF := Lib.hid fun W (hW : Below w.heap.size w W) => fits5 W A0 n0 c0 l hl m0 (h.below hW)
  clear h hl
  go_enter Try.func4, Try.ntmps4
  go_wp2_with fail
  refine (HF.out _ (by go_grown)).mono ?_
  rintro e w1 ⟨b, rfl, rfl⟩
  clear HF
  cases b with
  | false =>
    go_wp2_with fail
    go_returns
    exact ⟨_, rfl, by go_grown⟩
  | true =>
    go_wp2_with fail
    all_goals go_returns
    all_goals exact ⟨_, rfl, by go_grown⟩

end Go.Proofs.Ytnembmpjnlipeaa.So
