/- Contracts of the reference's Read. -/
import Derived.Test.YtobponaenabpgaaRdItems
namespace Go.Proofs.Ytobponaenabpgaa.Rd
open Go.ChangeShapes Go.WideShapes Go.ChangeAt Go.RowKit Sv Go.Proofs.YtobponaenabpgaaW Go.Proofs.YtobponaenabpgaaW.PrintWords
set_option linter.unusedVariables false

/-- An item and how many bytes it has. -/
def ItemPost (k : Nat) (N n : Int) (w : World) (e : Ending) (w' : World) : Prop :=
  e = .returned (.tuple #[.agg #[.int .i64 k, .int .u64 N, .slice none 0 0], .int .i64 n]) ∧ Below w.heap.size w w'

theorem xor_max (x : Int) (h0 : 0 ≤ x) (h1 : x < 18446744073709551616) : bits .xor .u64 IntKind.u64.max x = 18446744073709551615 - x := by
  rw [show IntKind.u64.max = 18446744073709551615 from rfl]
  rw [u64_xor _ x (by omega) (by omega) h0 h1, show (18446744073709551615 : Int).toNat = 2 ^ 64 - 1 from by decide, Nat.xor_comm, nat_xor_all 64 _ (by omega)]
  omega
theorem ret_item {k : Nat} {a b n : Int} (h : a = b) : Ending.returned (.tuple #[.agg #[.int .i64 k, .int .u64 a, .slice none 0 0], .int .i64 n]) = .returned (.tuple #[.agg #[.int .i64 k, .int .u64 b, .slice none 0 0], .int .i64 n]) := by rw [h]

set_option maxRecDepth 100000 in
theorem spec_0 (w : World) (a : Option Addr) (cap n : Nat) (z m : Int) (Hr : ∀ W, Below w.heap.size w W → Calls Try.prog 11 #[.slice a n cap] W fun e w' => e = .returned (.tuple #[.int .u64 z, .int .i64 m]) ∧ W = w') :
    Calls Try.prog 26 #[.slice a n cap, .int .i64 0] w (ItemPost 0 z m w) := by
  have H := Lib.hid Hr
  clear Hr
  go_enter Try.func26, Try.ntmps26
  go_wp2_with fail
  refine (H.out _ (by go_grown)).mono ?_
  rintro e w1 ⟨rfl, rfl⟩
  go_wp2
  go_returns
  exact ⟨rfl, by go_grown⟩

set_option maxRecDepth 100000 in
theorem spec_3_odd (w : World) (a : Option Addr) (cap n : Nat) (z m : Int) (hz0 : 0 ≤ z) (hz1 : z ≤ 18446744073709551615) (ho : (z % 4294967296 % 2 == 1) = true) (Hr : ∀ W, Below w.heap.size w W → Calls Try.prog 11 #[.slice a n cap] W fun e w' => e = .returned (.tuple #[.int .u64 z, .int .i64 m]) ∧ W = w') :
    Calls Try.prog 26 #[.slice a n cap, .int .i64 3] w (ItemPost 3 (4294967295 - z % 4294967296 / 2) m w) := by
  have H := Lib.hid Hr
  have HX := Lib.hid (xor_max (z % 4294967296 / 2) (by omega) (by omega))
  clear Hr
  go_enter Try.func26, Try.ntmps26
  go_wp2_with fail
  refine (H.out _ (by go_grown)).mono ?_
  rintro e w1 ⟨rfl, rfl⟩
  go_wp2
  all_goals
    go_returns
    refine ⟨ret_item (k := 3) ?_, by go_grown⟩
    first | omega | (rw [HX.out]; omega) | rw [HX.out]

set_option maxRecDepth 100000 in
theorem spec_3_even (w : World) (a : Option Addr) (cap n : Nat) (z m : Int) (hz0 : 0 ≤ z) (hz1 : z ≤ 18446744073709551615) (ho : (z % 4294967296 % 2 == 1) = false) (Hr : ∀ W, Below w.heap.size w W → Calls Try.prog 11 #[.slice a n cap] W fun e w' => e = .returned (.tuple #[.int .u64 z, .int .i64 m]) ∧ W = w') :
    Calls Try.prog 26 #[.slice a n cap, .int .i64 3] w (ItemPost 3 (z % 4294967296 / 2) m w) := by
  have H := Lib.hid Hr
  have HX := Lib.hid (xor_max (z % 4294967296 / 2) (by omega) (by omega))
  clear Hr
  go_enter Try.func26, Try.ntmps26
  go_wp2_with fail
  refine (H.out _ (by go_grown)).mono ?_
  rintro e w1 ⟨rfl, rfl⟩
  go_wp2
  all_goals
    go_returns
    refine ⟨ret_item (k := 3) ?_, by go_grown⟩
    first | omega | (rw [HX.out]; omega) | rw [HX.out]

theorem spec_3 (w : World) (a : Option Addr) (cap n : Nat) (z m : Int) (hz0 : 0 ≤ z) (hz1 : z ≤ 18446744073709551615) (Hr : ∀ W, Below w.heap.size w W → Calls Try.prog 11 #[.slice a n cap] W fun e w' => e = .returned (.tuple #[.int .u64 z, .int .i64 m]) ∧ W = w') :
    Calls Try.prog 26 #[.slice a n cap, .int .i64 3] w (ItemPost 3 (zz32 z) m w) := by
  unfold zz32
  by_cases h : z % 4294967296 % 2 = 1
  · rw [if_pos h]
    exact spec_3_odd w a cap n z m hz0 hz1 (by simp [h]) Hr
  · rw [if_neg h]
    exact spec_3_even w a cap n z m hz0 hz1 (by simpa using h) Hr

set_option maxRecDepth 100000 in
theorem spec_4_odd (w : World) (a : Option Addr) (cap n : Nat) (z m : Int) (hz0 : 0 ≤ z) (hz1 : z ≤ 18446744073709551615) (ho : (z % 2 == 1) = true) (Hr : ∀ W, Below w.heap.size w W → Calls Try.prog 11 #[.slice a n cap] W fun e w' => e = .returned (.tuple #[.int .u64 z, .int .i64 m]) ∧ W = w') :
    Calls Try.prog 26 #[.slice a n cap, .int .i64 4] w (ItemPost 4 (18446744073709551615 - z / 2) m w) := by
  have H := Lib.hid Hr
  have HX := Lib.hid (xor_max (z / 2) (by omega) (by omega))
  clear Hr
  go_enter Try.func26, Try.ntmps26
  go_wp2_with fail
  refine (H.out _ (by go_grown)).mono ?_
  rintro e w1 ⟨rfl, rfl⟩
  go_wp2
  all_goals
    go_returns
    refine ⟨ret_item (k := 4) ?_, by go_grown⟩
    first | omega | (rw [HX.out]; omega) | rw [HX.out]

set_option maxRecDepth 100000 in
theorem spec_4_even (w : World) (a : Option Addr) (cap n : Nat) (z m : Int) (hz0 : 0 ≤ z) (hz1 : z ≤ 18446744073709551615) (ho : (z % 2 == 1) = false) (Hr : ∀ W, Below w.heap.size w W → Calls Try.prog 11 #[.slice a n cap] W fun e w' => e = .returned (.tuple #[.int .u64 z, .int .i64 m]) ∧ W = w') :
    Calls Try.prog 26 #[.slice a n cap, .int .i64 4] w (ItemPost 4 (z / 2) m w) := by
  have H := Lib.hid Hr
  have HX := Lib.hid (xor_max (z / 2) (by omega) (by omega))
  clear Hr
  go_enter Try.func26, Try.ntmps26
  go_wp2_with fail
  refine (H.out _ (by go_grown)).mono ?_
  rintro e w1 ⟨rfl, rfl⟩
  go_wp2
  all_goals
    go_returns
    refine ⟨ret_item (k := 4) ?_, by go_grown⟩
    first | omega | (rw [HX.out]; omega) | rw [HX.out]

theorem spec_4 (w : World) (a : Option Addr) (cap n : Nat) (z m : Int) (hz0 : 0 ≤ z) (hz1 : z ≤ 18446744073709551615) (Hr : ∀ W, Below w.heap.size w W → Calls Try.prog 11 #[.slice a n cap] W fun e w' => e = .returned (.tuple #[.int .u64 z, .int .i64 m]) ∧ W = w') :
    Calls Try.prog 26 #[.slice a n cap, .int .i64 4] w (ItemPost 4 (zz64 z) m w) := by
  unfold zz64
  by_cases h : z % 2 = 1
  · rw [if_pos h]
    exact spec_4_odd w a cap n z m hz0 hz1 (by simp [h]) Hr
  · rw [if_neg h]
    exact spec_4_even w a cap n z m hz0 hz1 (by simpa using h) Hr

end Go.Proofs.Ytobponaenabpgaa.Rd
