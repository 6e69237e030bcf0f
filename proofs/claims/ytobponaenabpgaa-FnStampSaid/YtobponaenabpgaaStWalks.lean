/- Contracts of the methods of a time without a monotonic clock reading and without a place. -/
import Derived.Test.YtobponaenabpgaaRows
import Derived.WalkKit
import Derived.ProofKit
import Derived.OpenShut
import Derived.Outline
import Derived.BigQuiet
import Derived.Deep.QuietTactic
import Derived.Below
import Derived.Lib.Hide
import Derived.RegionTactic
import Derived.Handy
import Derived.WalkLawsBesides
import Derived.Laws.BitsAllLaws
import Derived.Deep.RegionWith
namespace Go.Proofs.Ytobponaenabpgaa.St
open Go.ChangeShapes Go.WideShapes Go.ChangeAt Go.RowKit
set_option linter.unusedVariables false

/-- A time as a value: nanoseconds, seconds since the year 1, no place. -/
def T3 (n e : Int) : Value := .agg #[.int .u64 n, .int .i64 e, .pointer none]

theorem bcell {W w1 : World} (hb : Below W.heap.size W w1) : (∀ b o, b < W.heap.size → w1.cell? ⟨b, o, none⟩ = W.cell? ⟨b, o, none⟩) ∧ (∀ b o, b < W.heap.size → w1.frozen? ⟨b, o, none⟩ = W.frozen? ⟨b, o, none⟩) :=
  ⟨fun b o h => hb.cell (p := ⟨b, o, none⟩) h, fun b o h => hb.frozen (p := ⟨b, o, none⟩) h⟩

theorem below_then {w a b : World} (h : Below w.heap.size w a) (k : Below a.heap.size a b) : Below w.heap.size w b := h.trans (k.mono h.size)

theorem nat_pow63 (n : Nat) (h : n < 1073741824) : n &&& 9223372036854775808 = 0 := by
  apply Nat.eq_of_testBit_eq
  intro i
  rw [Nat.testBit_and, Nat.zero_testBit]
  by_cases hi : i < 30
  · have : Nat.testBit 9223372036854775808 i = false := by
      have : (9223372036854775808 : Nat) = 2 ^ 63 := by decide
      rw [this, Nat.testBit_two_pow]; simp; omega
    simp [this]
  · have : n.testBit i = false := Nat.testBit_lt_two_pow (Nat.lt_of_lt_of_le h (by
      have : (1073741824 : Nat) = 2 ^ 30 := by decide
      rw [this]; exact Nat.pow_le_pow_right (by omega) (by omega)))
    simp [this]

theorem and_mono (n : Int) (h0 : 0 ≤ n) (h : n < 1073741824) : bits .and .u64 n 9223372036854775808 = 0 := by
  rw [u64_and n _ h0 (by omega) (by omega) (by omega)]
  rw [show (9223372036854775808 : Int).toNat = 9223372036854775808 from rfl, nat_pow63 _ (by omega)]
  rfl

theorem and_mask (n : Int) (h0 : 0 ≤ n) (h : n < 1073741824) : bits .and .u64 n 1073741823 = n := by
  rw [u64_and n _ h0 (by omega) (by omega) (by omega)]
  rw [show (1073741823 : Int).toNat = 2 ^ 30 - 1 from by decide, Nat.and_two_pow_sub_one_eq_mod]
  omega

theorem and_self (n : Int) (h0 : 0 ≤ n) (h : n < 1073741824) : bits .and .u64 n n = n := by
  rw [u64_and n _ h0 (by omega) (by omega) (by omega), Nat.and_self]
  omega
theorem and_zero (n : Int) (h0 : 0 ≤ n) (h : n < 1073741824) : bits .and .u64 n 0 = 0 := by
  rw [u64_and n _ h0 (by omega) (by omega) (by omega), show (0 : Int).toNat = 0 from rfl, Nat.and_zero]
  omega
theorem or_zero (n : Int) (h0 : 0 ≤ n) (h : n < 1073741824) : bits .or .u64 0 n = n := by
  rw [u64_or 0 _ (by omega) (by omega) (by omega) (by omega), show (0 : Int).toNat = 0 from rfl, Nat.zero_or]
  omega
theorem andNot_zero : bits .andNot .u64 0 1073741823 = 0 := by kernel_rfl

theorem unix_any (s n : Int) (w : World) (h0 : 0 ≤ n) (h1 : n < 1000000000) (h2 : -1000000000000 < s) (h3 : s < 1000000000000) :
    Calls Try.prog 42 #[.int .i64 s, .int .i64 n] w fun e w' => e = .returned (T3 n (s + 62135596800)) ∧ Below w.heap.size w w' := by
  go_enter Try.func42, Try.ntmps42
  go_wp2
  go_returns
  exact ⟨rfl, by go_grown⟩

theorem tunix_any (n e : Int) (w : World) (h0 : 0 ≤ n) (h1 : n < 1000000000) (h2 : -1000000000000 < e) (h3 : e < 1000000000000) :
    Calls Try.prog 44 #[T3 n e] w fun r w' => r = .returned (.int .i64 (e - 62135596800)) ∧ Below w.heap.size w w' := by
  have a := and_mono n h0 (by omega)
  unfold T3
  go_enter Try.func44, Try.ntmps44
  go_wp2
  go_returns
  exact ⟨by rw [Int.sub_eq_add_neg]; rfl, by go_grown⟩

theorem nanos_any (n e : Int) (w : World) (h0 : 0 ≤ n) (h1 : n < 1000000000) :
    Calls Try.prog 45 #[T3 n e] w fun r w' => r = .returned (.int .i64 n) ∧ Below w.heap.size w w' := by
  have a := and_mask n h0 (by omega)
  unfold T3
  go_enter Try.func45, Try.ntmps45
  go_wp2
  go_returns
  exact ⟨rfl, by go_grown⟩

theorem equal_any (n e : Int) (w : World) (h0 : 0 ≤ n) (h1 : n < 1000000000) :
    Calls Try.prog 83 #[T3 n e, T3 n e] w fun r w' => r = .returned (.bool true) ∧ Below w.heap.size w w' := by
  have a := and_mono n h0 (by omega)
  have b := and_mask n h0 (by omega)
  have c := and_self n h0 (by omega)
  unfold T3
  go_enter Try.func83, Try.ntmps83
  go_wp2
  go_returns
  exact ⟨rfl, by go_grown⟩

theorem add_any (n e : Int) (w : World) (h0 : 0 ≤ n) (h1 : n < 1000000000) (h2 : -1000000000000 < e) (h3 : e < 1000000000000) :
    Calls Try.prog 82 #[T3 0 e, .int .i64 n] w fun r w' => r = .returned (T3 n e) ∧ Below w.heap.size w w' := by
  have d := Int.ediv_eq_zero_of_lt h0 h1
  have m := Int.emod_eq_of_lt h0 h1
  have a := and_mono 0 (by omega) (by omega)
  have b := and_mask 0 (by omega) (by omega)
  have a1 := and_mono n h0 (by omega)
  have b1 := or_zero n h0 (by omega)
  have c1 := andNot_zero
  unfold T3
  go_enter Try.func82, Try.ntmps82
  go_wp2
  go_returns
  exact ⟨rfl, by go_grown⟩

set_option maxHeartbeats 1000000 in
theorem sub_any (n e : Int) (w : World) (h0 : 0 ≤ n) (h1 : n < 1000000000) (h2 : -1000000000000 < e) (h3 : e < 1000000000000) :
    Calls Try.prog 77 #[T3 n e, T3 0 e] w fun r w' => r = .returned (.int .i64 n) ∧ Below w.heap.size w w' := by
  have z := and_zero n h0 (by omega)
  have a := and_mono 0 (by omega) (by omega)
  have b := and_mask 0 (by omega) (by omega)
  have a1 := and_mono n h0 (by omega)
  have b1 := and_mask n h0 (by omega)
  have hadd := fun W => add_any n e W h0 h1 h2 h3
  have heq := fun W => equal_any n e W h0 h1
  unfold T3 at *
  have Hadd := Lib.hid hadd
  have Heq := Lib.hid heq
  clear hadd heq
  go_enter Try.func77, Try.ntmps77
  go_wp2
  go_region_with (first | (go_at_call 82; refine (Hadd.out _).mono ?_; rintro e1 w1 ⟨rfl, hb1⟩; obtain ⟨hc1, hf1⟩ := bcell hb1; have hs1 := hb1.size) | (go_at_call 83; refine (Heq.out _).mono ?_; rintro e2 w2 ⟨rfl, hb2⟩; obtain ⟨hc2, hf2⟩ := bcell hb2))
  all_goals
    go_wp2
    go_ret
    exact ⟨rfl, below_then (by repeat (first | exact below_then (by go_grown) hb1 | refine Below.drew ?_)) hb2⟩

theorem tunix_s (n s : Int) (w : World) (h0 : 0 ≤ n) (h1 : n < 1000000000) (h2 : -1000000000000 < s) (h3 : s < 900000000000) :
    Calls Try.prog 44 #[.agg #[.int .u64 n, .int .i64 (s + 62135596800), .pointer none]] w fun r w' => r = .returned (.int .i64 s) ∧ Below w.heap.size w w' := by
  refine (tunix_any n (s + 62135596800) w h0 h1 (by omega) (by omega)).mono ?_
  rintro e w1 ⟨rfl, hb⟩
  exact ⟨by rw [Int.add_sub_cancel], hb⟩

end Go.Proofs.Ytobponaenabpgaa.St
