/- The buffer's reading of signed numbers, their sign last. -/
import Derived.Test.YtobponaenabpgaaRdFix
namespace Go.Proofs.Ytobponaenabpgaa.Rd
open Go.ChangeShapes Go.WideShapes Go.ChangeAt Go.RowKit Sv Go.Proofs.YtobponaenabpgaaW Go.Proofs.YtobponaenabpgaaW.PrintWords
set_option linter.unusedVariables false

def zz64 (x : Int) : Int := if x % 2 = 1 then 18446744073709551615 - x / 2 else x / 2
def zz32 (x : Int) : Int := if x % 4294967296 % 2 = 1 then 4294967295 - x % 4294967296 / 2 else x % 4294967296 / 2

theorem and1 (x : Int) (h0 : 0 ≤ x) (h1 : x < 18446744073709551616) : bits .and .u64 x 1 = x % 2 := by
  rw [u64_and x _ h0 h1 (by omega) (by omega), show (1 : Int).toNat = 2 ^ 1 - 1 from by decide, Nat.and_two_pow_sub_one_eq_mod]
  omega
theorem nat_xor_all (n x : Nat) (h : x < 2 ^ n) : x ^^^ (2 ^ n - 1) = 2 ^ n - (x + 1) := by
  apply Nat.eq_of_testBit_eq
  intro i
  rw [Nat.testBit_xor, Nat.testBit_two_pow_sub_one, Nat.testBit_two_pow_sub_succ h]
  by_cases hi : i < n
  · simp [hi]
  · have : x.testBit i = false := Nat.testBit_lt_two_pow (Nat.lt_of_lt_of_le h (Nat.pow_le_pow_right (by omega) (by omega)))
    simp [hi, this]
theorem xor_all64 (x : Int) (h0 : 0 ≤ x) (h1 : x < 18446744073709551616) : bits .xor .u64 x (IntKind.u64.wrap (wrap64 9223372036854775808 / 9223372036854775808)) = 18446744073709551615 - x := by
  rw [show IntKind.u64.wrap (wrap64 9223372036854775808 / 9223372036854775808) = 18446744073709551615 from by rw [IntKind.wrap_u64]; unfold wrap64; omega]
  rw [u64_xor x _ h0 h1 (by omega) (by omega), show (18446744073709551615 : Int).toNat = 2 ^ 64 - 1 from by decide, nat_xor_all 64 _ (by omega)]
  omega
theorem xor_zero64 (x : Int) (h0 : 0 ≤ x) (h1 : x < 18446744073709551616) : bits .xor .u64 x 0 = x := by
  rw [u64_xor x _ h0 h1 (by omega) (by omega), show (0 : Int).toNat = 0 from rfl, Nat.xor_zero]
  omega
theorem xor_all32 (x : Int) (h0 : 0 ≤ x) (h1 : x < 4294967296) : IntKind.u64.wrap (bits .xor .u32 x (wrap32 2147483648 / 2147483648 % 4294967296)) = 4294967295 - x := by
  rw [show wrap32 2147483648 / 2147483648 % 4294967296 = 4294967295 from by unfold wrap32; omega]
  rw [u32_xor x _ h0 h1 (by omega) (by omega), show (4294967295 : Int).toNat = 2 ^ 32 - 1 from by decide, nat_xor_all 32 _ (by omega), IntKind.wrap_u64]
  omega
theorem xor_zero32 (x : Int) (h0 : 0 ≤ x) (h1 : x < 4294967296) : IntKind.u64.wrap (bits .xor .u32 x 0) = x := by
  rw [u32_xor x _ h0 h1 (by omega) (by omega), show (0 : Int).toNat = 0 from rfl, Nat.xor_zero, IntKind.wrap_u64]
  omega
theorem ret_num' {a b : Int} (h : a = b) : Ending.returned (.tuple #[.int .u64 a, .nilIface]) = .returned (.tuple #[.int .u64 b, .nilIface]) := by rw [h]

theorem dv_bd {r : List Int} (hB : Bytes8 r) {x : Int} {m : Nat} (h : dv r = some (x, m)) : 0 ≤ x ∧ x ≤ 18446744073709551615 ∧ m ≤ r.length := by
  unfold dv at h
  split at h
  · rename_i hk
    simp only [Option.some.injEq, Prod.mk.injEq] at h
    obtain ⟨rfl, rfl⟩ := h
    omega
  · simp at h

theorem zig64_none (w : World) (B : Nat) (A : Option Addr) (cap : Nat) (b : List Int) (i : Nat) (h : IsBuf w B A cap b i) (hd : dv (b.drop i) = none) :
    Calls Try.prog 51 #[.pointer (some ⟨B, 0, none⟩)] w (ErrPost w) := by
  have Hv := Lib.hid (var_none w B A cap b i h hd)
  clear h hd
  go_enter Try.func51, Try.ntmps51
  go_wp2_with fail
  refine Hv.out.mono ?_
  rintro e w1 ⟨x, s, rfl, rfl⟩
  go_wp2
  go_returns
  exact ⟨_, _, rfl, rfl⟩

theorem zig64_some (w : World) (B : Nat) (A : Option Addr) (cap : Nat) (b : List Int) (i : Nat) (h : IsBuf w B A cap b i) (x : Int) (m : Nat) (hd : dv (b.drop i) = some (x, m)) :
    Calls Try.prog 51 #[.pointer (some ⟨B, 0, none⟩)] w fun e w' => e = .returned (.tuple #[.int .u64 (zz64 x), .nilIface]) ∧ moved w B (i + m) = w' := by
  obtain ⟨h0, h1, _⟩ := dv_bd (bytes_drop h.holds.1 i) hd
  have Hv := Lib.hid (var_some w B A cap b i h x m hd)
  clear h hd
  by_cases ho : x % 2 = 1
  · have ha : bits .and .u64 x 1 = 1 := by rw [and1 x h0 (by omega), ho]
    have HE : Hid (zz64 x = 18446744073709551615 - x / 2) := by unfold Hid zz64; rw [if_pos (by omega)]
    have HX := Lib.hid (xor_all64 (x / 2) (by omega) (by omega))
    clear ho
    go_enter Try.func51, Try.ntmps51
    go_wp2_with fail
    refine Hv.out.mono ?_
    rintro e w1 ⟨rfl, rfl⟩
    go_wp2
    go_returns
    rw [HE.out, ← HX.out]
    exact ⟨rfl, rfl⟩
  · have ha : bits .and .u64 x 1 = 0 := by rw [and1 x h0 (by omega)]; omega
    have HE : Hid (zz64 x = x / 2) := by unfold Hid zz64; rw [if_neg (by omega)]
    have HX := Lib.hid (xor_zero64 (x / 2) (by omega) (by omega))
    clear ho
    go_enter Try.func51, Try.ntmps51
    go_wp2_with fail
    refine Hv.out.mono ?_
    rintro e w1 ⟨rfl, rfl⟩
    go_wp2
    go_returns
    rw [HE.out]
    refine ⟨?_, rfl⟩
    refine ret_num' ?_
    exact HX.out

theorem zig32_none (w : World) (B : Nat) (A : Option Addr) (cap : Nat) (b : List Int) (i : Nat) (h : IsBuf w B A cap b i) (hd : dv (b.drop i) = none) :
    Calls Try.prog 50 #[.pointer (some ⟨B, 0, none⟩)] w (ErrPost w) := by
  have Hv := Lib.hid (var_none w B A cap b i h hd)
  clear h hd
  go_enter Try.func50, Try.ntmps50
  go_wp2_with fail
  refine Hv.out.mono ?_
  rintro e w1 ⟨x, s, rfl, rfl⟩
  go_wp2
  go_returns
  exact ⟨_, _, rfl, rfl⟩

theorem zig32_some (w : World) (B : Nat) (A : Option Addr) (cap : Nat) (b : List Int) (i : Nat) (h : IsBuf w B A cap b i) (x : Int) (m : Nat) (hd : dv (b.drop i) = some (x, m)) :
    Calls Try.prog 50 #[.pointer (some ⟨B, 0, none⟩)] w fun e w' => e = .returned (.tuple #[.int .u64 (zz32 x), .nilIface]) ∧ moved w B (i + m) = w' := by
  obtain ⟨h0, h1, _⟩ := dv_bd (bytes_drop h.holds.1 i) hd
  have Hv := Lib.hid (var_some w B A cap b i h x m hd)
  clear h hd
  by_cases ho : x % 2 = 1
  · have ha : bits .and .u64 x 1 = 1 := by rw [and1 x h0 (by omega), ho]
    have HE : Hid (zz32 x = 4294967295 - x % 4294967296 / 2) := by unfold Hid zz32; rw [if_pos (by omega)]
    have HX := Lib.hid (xor_all32 (x % 4294967296 / 2) (by omega) (by omega))
    clear ho
    go_enter Try.func50, Try.ntmps50
    go_wp2_with fail
    refine Hv.out.mono ?_
    rintro e w1 ⟨rfl, rfl⟩
    go_wp2
    go_returns
    rw [HE.out, ← HX.out]
    exact ⟨rfl, rfl⟩
  · have ha : bits .and .u64 x 1 = 0 := by rw [and1 x h0 (by omega)]; omega
    have HE : Hid (zz32 x = x % 4294967296 / 2) := by unfold Hid zz32; rw [if_neg (by omega)]
    have HX := Lib.hid (xor_zero32 (x % 4294967296 / 2) (by omega) (by omega))
    clear ho
    go_enter Try.func50, Try.ntmps50
    go_wp2_with fail
    refine Hv.out.mono ?_
    rintro e w1 ⟨rfl, rfl⟩
    go_wp2
    go_returns
    rw [HE.out]
    refine ⟨?_, rfl⟩
    refine ret_num' ?_
    exact HX.out

end Go.Proofs.Ytobponaenabpgaa.Rd
