/- The reference's low bytes, and its folding. -/
import Derived.Test.YtobponaenabpgaaWrFix
import Derived.Test.YtobponaenabpgaaWrZig
namespace Go.Proofs.Ytobponaenabpgaa.Rd
open Go.ChangeShapes Go.WideShapes Go.ChangeAt Go.RowKit Sv Go.Proofs.YtobponaenabpgaaW Go.Proofs.YtobponaenabpgaaW.PrintWords
set_option linter.unusedVariables false

theorem lo_step {k j : Nat} {x y : Int} {xs : List Int} (hj : j < k) (h : xs ++ lo (k - j) y = lo k x) : (xs ++ [y % 256]) ++ lo (k - (j + 1)) (y / 256) = lo k x := by
  rw [← h, show k - j = (k - (j + 1)) + 1 from by omega]
  simp [lo]

def RowPost (l : List Int) (w : World) (e : Ending) (w' : World) : Prop := ∃ v, e = .returned v ∧ Row8 w.heap.size w' v l ∧ Below w.heap.size w w'

set_option maxRecDepth 100000 in
theorem low_any (x : Int) (h0 : 0 ≤ x) (h1 : x ≤ 18446744073709551615) (k : Nat) (hk : k ≤ 8) (w : World) : Calls Try.prog 39 #[.int .u64 x, .int .i64 k] w (RowPost (lo k x) w) := by
  go_enter Try.func39, Try.ntmps39
  go_wp2
  go_loopw [0, 5, 7] (fun y v n wr => ∃ (j : Nat) (z : Int) (xs : List Int), n = .int .i64 j ∧ y = .int .u64 z ∧ j ≤ k ∧ 0 ≤ z ∧ z ≤ 18446744073709551615 ∧ xs.length = j ∧ Hid (xs ++ lo (k - j) z = lo k x) ∧ Hid (Row8 w.heap.size wr v xs) ∧ Hid (Below w.heap.size w wr)) (fun _ _ n _ => k - (intOf n).toNat)
  case atStart => exact ⟨0, x, [], rfl, rfl, by omega, h0, h1, rfl, rfl, own_nil _ _ _ _, Below.refl _ _⟩
  case round =>
    obtain ⟨j, z, xs, rfl, rfl, hj, hz0, hz1, hl, HE, HR, HB⟩ := hrel
    have HL := Lib.hid hl
    by_cases hlt : j < k
    · clear hl
      go_wp2_with (at_builtin; go_loud (refine print_append_num (w0 := w) w.heap.size rfl (.tmp 9) (.tmp 13) 23 5 .u8 1 rfl Try.underlying23 info5 (by decide) u5 xs (z % 256) rfl rfl HR.out HB.out HB.out.size (by have := HL.out; omega) ?_); intro v1 w1 HO1 HB1 _ _; have HO := Lib.hid HO1; have HBB := Lib.hid HB1; clear HO1 HB1)
      go_roundw
      case rel => exact ⟨j + 1, z / 256, xs ++ [z % 256], by go_num, rfl, by omega, by omega, by omega, by have := HL.out; simp; omega, lo_step hlt HE.out, HO.out, HBB.out⟩
      case measure => simp [intOf]; omega
    · obtain rfl : j = k := by omega
      clear hl
      go_wp2
      go_returns
      refine ⟨_, rfl, ?_, HB.out⟩
      have := HE.out
      rw [Nat.sub_self, show lo 0 z = [] from rfl, List.append_nil] at this
      rw [← this]
      exact HR.out

theorem folded_any (z : Int) (h0 : -9223372036854775808 ≤ z) (h1 : z < 9223372036854775808) (w : World) :
    Calls Try.prog 57 #[.int .i64 z] w fun e w' => e = .returned (.int .u64 (if z < 0 then 2 * (-(z + 1)) + 1 else 2 * z)) ∧ w = w' := by
  by_cases h : z < 0
  · go_enter Try.func57, Try.ntmps57
    go_wp2
    go_ret
    exact ⟨rfl, rfl⟩
  · go_enter Try.func57, Try.ntmps57
    go_wp2
    go_ret
    exact ⟨rfl, rfl⟩

end Go.Proofs.Ytobponaenabpgaa.Rd
