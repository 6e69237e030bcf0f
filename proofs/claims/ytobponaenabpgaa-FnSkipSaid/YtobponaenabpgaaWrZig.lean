/- The buffer's writing of folded numbers. -/
import Derived.Test.YtobponaenabpgaaWrBuf
namespace Go.Proofs.Ytobponaenabpgaa.Rd
open Go.ChangeShapes Go.WideShapes Go.ChangeAt Go.RowKit Sv Go.Proofs.YtobponaenabpgaaW Go.Proofs.YtobponaenabpgaaW.PrintWords
set_option linter.unusedVariables false

/-- A number folded: 64 bits, 32 bits. -/
def fo64 (x : Int) : Int := if x < 9223372036854775808 then 2 * x else 2 * (18446744073709551615 - x) + 1
def fo32 (x : Int) : Int := if x % 4294967296 < 2147483648 then 2 * (x % 4294967296) else 2 * (4294967295 - x % 4294967296) + 1

theorem fo64_bd {x : Int} (h0 : 0 ≤ x) (h1 : x ≤ 18446744073709551615) : 0 ≤ fo64 x ∧ fo64 x ≤ 18446744073709551615 := by unfold fo64; split <;> omega
theorem fo32_bd (x : Int) : 0 ≤ fo32 x ∧ fo32 x ≤ 4294967295 := by unfold fo32; split <;> omega

theorem fo64_lo {x : Int} (h0 : 0 ≤ x) (h : x < 9223372036854775808) : bits .xor .u64 (x * 2) (x / 9223372036854775808) = ((fo64 x).toNat : Int) := by
  rw [show x / 9223372036854775808 = 0 from by omega, xor_zero64 _ (by omega) (by omega)]
  unfold fo64; rw [if_pos h]; omega
theorem fo64_hi {x : Int} (h0 : ¬ x < 9223372036854775808) (h1 : x ≤ 18446744073709551615) : bits .xor .u64 (IntKind.u64.wrap (x * 2)) (IntKind.u64.wrap (wrap64 x / 9223372036854775808)) = ((fo64 x).toNat : Int) := by
  rw [show IntKind.u64.wrap (wrap64 x / 9223372036854775808) = IntKind.u64.wrap (wrap64 9223372036854775808 / 9223372036854775808) from by rw [IntKind.wrap_u64, IntKind.wrap_u64]; unfold wrap64; omega]
  rw [xor_all64 _ (by rw [IntKind.wrap_u64]; omega) (by rw [IntKind.wrap_u64]; omega), IntKind.wrap_u64]
  unfold fo64; rw [if_neg h0]; omega
theorem fo32_lo {x : Int} (h : x % 4294967296 < 2147483648) : IntKind.u64.wrap (bits .xor .u32 (x % 4294967296 * 2 % 4294967296) (wrap32 x / 2147483648 % 4294967296)) = ((fo32 x).toNat : Int) := by
  rw [show wrap32 x / 2147483648 % 4294967296 = 0 from by unfold wrap32; omega, u32_xor _ _ (by omega) (by omega) (by omega) (by omega), show (0 : Int).toNat = 0 from rfl, Nat.xor_zero, IntKind.wrap_u64]
  unfold fo32; rw [if_pos h]; omega
theorem fo32_hi {x : Int} (h : ¬ x % 4294967296 < 2147483648) : IntKind.u64.wrap (bits .xor .u32 (x % 4294967296 * 2 % 4294967296) (wrap32 x / 2147483648 % 4294967296)) = ((fo32 x).toNat : Int) := by
  rw [show wrap32 x / 2147483648 % 4294967296 = wrap32 2147483648 / 2147483648 % 4294967296 from by unfold wrap32; omega]
  rw [xor_all32 _ (by omega) (by omega)]
  unfold fo32; rw [if_neg h]; omega

set_option maxHeartbeats 1000000 in
set_option maxRecDepth 100000 in
theorem put_zig64 (x : Int) (h0 : 0 ≤ x) (h1 : x ≤ 18446744073709551615) (w : World) (B : Nat) (v : Value) (xs : List Int) (h : OutBuf w B v xs) (hx : xs.length ≤ 100000) :
    Calls Try.prog 62 #[.pointer (some ⟨B, 0, none⟩), .int .u64 x] w (PutPost B (xs ++ sev (fo64 x).toNat) w) := by
  have hb := fo64_bd h0 h1
  have HV := Lib.hid (put_varint (fo64 x).toNat (by omega) w B v xs h hx)
  clear h
  by_cases hs : x < 9223372036854775808
  · have HE := Lib.hid (fo64_lo h0 hs)
    clear hb
    go_enter Try.func62, Try.ntmps62
    go_wp2_with fail
    rw [HE.out]
    refine HV.out.mono ?_
    rintro e w1 ⟨rfl, hp⟩
    have HP := Lib.hid hp
    clear hp
    go_wp2
    go_returns
    exact ⟨rfl, HP.out⟩
  · have HE := Lib.hid (fo64_hi hs h1)
    clear hb
    go_enter Try.func62, Try.ntmps62
    go_wp2_with fail
    rw [HE.out]
    refine HV.out.mono ?_
    rintro e w1 ⟨rfl, hp⟩
    have HP := Lib.hid hp
    clear hp
    go_wp2
    go_returns
    exact ⟨rfl, HP.out⟩

set_option maxHeartbeats 1000000 in
set_option maxRecDepth 100000 in
theorem put_zig32 (x : Int) (h0 : 0 ≤ x) (h1 : x ≤ 18446744073709551615) (w : World) (B : Nat) (v : Value) (xs : List Int) (h : OutBuf w B v xs) (hx : xs.length ≤ 100000) :
    Calls Try.prog 61 #[.pointer (some ⟨B, 0, none⟩), .int .u64 x] w (PutPost B (xs ++ sev (fo32 x).toNat) w) := by
  have hb := fo32_bd x
  have HV := Lib.hid (put_varint (fo32 x).toNat (by omega) w B v xs h hx)
  have HE : Hid (IntKind.u64.wrap (bits .xor .u32 (x % 4294967296 * 2 % 4294967296) (wrap32 x / 2147483648 % 4294967296)) = ((fo32 x).toNat : Int)) := by
    by_cases hs : x % 4294967296 < 2147483648
    · exact fo32_lo hs
    · exact fo32_hi hs
  clear h hb
  go_enter Try.func61, Try.ntmps61
  go_wp2_with fail
  rw [HE.out]
  refine HV.out.mono ?_
  rintro e w1 ⟨rfl, hp⟩
  have HP := Lib.hid hp
  clear hp
  go_wp2
  go_returns
  exact ⟨rfl, HP.out⟩

end Go.Proofs.Ytobponaenabpgaa.Rd
