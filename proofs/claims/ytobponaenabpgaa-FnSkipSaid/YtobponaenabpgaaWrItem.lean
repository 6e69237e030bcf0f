/- The reference's Written of one value. -/
import Derived.Test.YtobponaenabpgaaWrLow
import Derived.Test.YtobponaenabpgaaWrRaw
namespace Go.Proofs.Ytobponaenabpgaa.Rd
open Go.ChangeShapes Go.WideShapes Go.ChangeAt Go.RowKit Sv Go.Proofs.YtobponaenabpgaaW Go.Proofs.YtobponaenabpgaaW.PrintWords
set_option linter.unusedVariables false

/-- The bytes of a value. -/
def encIt (k : Nat) (n : Int) (l : List Int) : List Int := match k with
  | 0 => sev n.toNat
  | 1 => lo 4 n
  | 2 => lo 8 n
  | 3 => sev (fo32 n).toNat
  | 4 => sev (fo64 n).toNat
  | _ => sev l.length ++ l

theorem rowpost_low {w W : World} (hW : Below w.heap.size w W) {l : List Int} {e : Ending} {w' : World} (h : RowPost l W e w') : RowPost l w e w' := by
  obtain ⟨v, he, ho, hb⟩ := h
  refine ⟨v, he, ?_, hW.trans (hb.mono hW.size)⟩
  refine ⟨ho.1, ?_⟩
  have := hW.size
  rcases ho.2 with h | ⟨g, cap, cur, h1, h2, h3⟩
  · exact .inl h
  · exact .inr ⟨g, cap, cur, h1, by omega, h3⟩

theorem sev_at (m : Nat) (hm : (m : Int) ≤ 18446744073709551615) (w W : World) (hW : Below w.heap.size w W) : Calls Try.prog 10 #[.int .u64 m] W (RowPost (sev m) w) :=
  (sevens_any m hm W).mono fun e w' h => rowpost_low hW h
theorem low_at (x : Int) (h0 : 0 ≤ x) (h1 : x ≤ 18446744073709551615) (k : Nat) (hk : k ≤ 8) (w W : World) (hW : Below w.heap.size w W) : Calls Try.prog 39 #[.int .u64 x, .int .i64 k] W (RowPost (lo k x) w) :=
  (low_any x h0 h1 k hk W).mono fun e w' h => rowpost_low hW h

set_option maxHeartbeats 1000000 in
set_option maxRecDepth 100000 in
theorem written_0 (n : Int) (h0 : 0 ≤ n) (h1 : n ≤ 18446744073709551615) (a : Option Addr) (m c : Nat) (w : World) :
    Calls Try.prog 30 #[.agg #[.int .i64 0, .int .u64 n, .slice a m c]] w (RowPost (sev n.toNat) w) := by
  obtain ⟨x, rfl⟩ := Int.eq_ofNat_of_zero_le h0
  have HS := Lib.hid fun W hW => sev_at x h1 w W hW
  go_enter Try.func30, Try.ntmps30
  go_wp2_with fail
  refine (HS.out _ (by go_grown)).mono ?_
  rintro e w1 ⟨v, rfl, hp⟩
  have HP := Lib.hid hp
  clear hp
  go_wp2
  go_returns
  exact ⟨_, rfl, HP.out⟩

set_option maxHeartbeats 1000000 in
set_option maxRecDepth 100000 in
theorem written_1 (n : Int) (h0 : 0 ≤ n) (h1 : n ≤ 18446744073709551615) (a : Option Addr) (m c : Nat) (w : World) :
    Calls Try.prog 30 #[.agg #[.int .i64 1, .int .u64 n, .slice a m c]] w (RowPost (lo 4 n) w) := by
  have HS := Lib.hid fun W hW => low_at n h0 h1 4 (by decide) w W hW
  go_enter Try.func30, Try.ntmps30
  go_wp2_with fail
  refine (HS.out _ (by go_grown)).mono ?_
  rintro e w1 ⟨v, rfl, hp⟩
  have HP := Lib.hid hp
  clear hp
  go_wp2
  go_returns
  exact ⟨_, rfl, HP.out⟩

set_option maxHeartbeats 1000000 in
set_option maxRecDepth 100000 in
theorem written_2 (n : Int) (h0 : 0 ≤ n) (h1 : n ≤ 18446744073709551615) (a : Option Addr) (m c : Nat) (w : World) :
    Calls Try.prog 30 #[.agg #[.int .i64 2, .int .u64 n, .slice a m c]] w (RowPost (lo 8 n) w) := by
  have HS := Lib.hid fun W hW => low_at n h0 h1 8 (by decide) w W hW
  go_enter Try.func30, Try.ntmps30
  go_wp2_with fail
  refine (HS.out _ (by go_grown)).mono ?_
  rintro e w1 ⟨v, rfl, hp⟩
  have HP := Lib.hid hp
  clear hp
  go_wp2
  go_returns
  exact ⟨_, rfl, HP.out⟩

theorem fold64_eq {n : Int} (h0 : 0 ≤ n) (h1 : n ≤ 18446744073709551615) : (if wrap64 n < 0 then 2 * (-(wrap64 n + 1)) + 1 else 2 * wrap64 n) = ((fo64 n).toNat : Int) := by
  unfold wrap64 fo64; split <;> split <;> omega
theorem fold32_eq {n : Int} (h0 : 0 ≤ n) (h1 : n ≤ 18446744073709551615) : (if wrap64 (wrap32 (n % 4294967296)) < 0 then 2 * (-(wrap64 (wrap32 (n % 4294967296)) + 1)) + 1 else 2 * wrap64 (wrap32 (n % 4294967296))) = ((fo32 n).toNat : Int) := by
  unfold wrap64 wrap32 fo32; split <;> split <;> omega

theorem fold_at4 (n : Int) (h0 : 0 ≤ n) (h1 : n ≤ 18446744073709551615) (x : Nat) (hx : (fo64 n).toNat = x) (W : World) :
    Calls Try.prog 57 #[.int .i64 (wrap64 n)] W fun e w' => e = .returned (.int .u64 x) ∧ W = w' := by
  refine (folded_any (wrap64 n) (by unfold wrap64; omega) (by unfold wrap64; omega) W).mono ?_
  rintro e w' ⟨rfl, rfl⟩
  rw [fold64_eq h0 h1, hx]
  exact ⟨rfl, rfl⟩

set_option maxHeartbeats 1000000 in
set_option maxRecDepth 100000 in
theorem written_4 (n : Int) (h0 : 0 ≤ n) (h1 : n ≤ 18446744073709551615) (a : Option Addr) (m c : Nat) (w : World) :
    Calls Try.prog 30 #[.agg #[.int .i64 4, .int .u64 n, .slice a m c]] w (RowPost (sev (fo64 n).toNat) w) := by
  obtain ⟨x, hx⟩ : ∃ x, (fo64 n).toNat = x := ⟨_, rfl⟩
  have hb : (x : Int) ≤ 18446744073709551615 := by have := fo64_bd h0 h1; omega
  have HS := Lib.hid fun W hW => sev_at x hb w W hW
  have HF := Lib.hid fun W => fold_at4 n h0 h1 x hx W
  rw [hx]
  clear hx
  go_enter Try.func30, Try.ntmps30
  go_wp2_with fail
  refine (HF.out _).mono ?_
  rintro e w1 ⟨rfl, rfl⟩
  go_wp2_with fail
  refine (HS.out _ (by go_grown)).mono ?_
  rintro e w1 ⟨v, rfl, hp⟩
  have HP := Lib.hid hp
  clear hp
  go_wp2
  go_returns
  exact ⟨_, rfl, HP.out⟩

theorem fold_at3 (n : Int) (h0 : 0 ≤ n) (h1 : n ≤ 18446744073709551615) (x : Nat) (hx : (fo32 n).toNat = x) (W : World) :
    Calls Try.prog 57 #[.int .i64 (wrap64 (wrap32 (n % 4294967296)))] W fun e w' => e = .returned (.int .u64 x) ∧ W = w' := by
  refine (folded_any (wrap64 (wrap32 (n % 4294967296))) (by unfold wrap64 wrap32; omega) (by unfold wrap64 wrap32; omega) W).mono ?_
  rintro e w' ⟨rfl, rfl⟩
  rw [fold32_eq h0 h1, hx]
  exact ⟨rfl, rfl⟩

set_option maxHeartbeats 1000000 in
set_option maxRecDepth 100000 in
theorem written_3 (n : Int) (h0 : 0 ≤ n) (h1 : n ≤ 18446744073709551615) (a : Option Addr) (m c : Nat) (w : World) :
    Calls Try.prog 30 #[.agg #[.int .i64 3, .int .u64 n, .slice a m c]] w (RowPost (sev (fo32 n).toNat) w) := by
  obtain ⟨x, hx⟩ : ∃ x, (fo32 n).toNat = x := ⟨_, rfl⟩
  have hb : (x : Int) ≤ 18446744073709551615 := by have := fo32_bd n; omega
  have HS := Lib.hid fun W hW => sev_at x hb w W hW
  have HF := Lib.hid fun W => fold_at3 n h0 h1 x hx W
  rw [hx]
  clear hx
  go_enter Try.func30, Try.ntmps30
  go_wp2_with fail
  refine (HF.out _).mono ?_
  rintro e w1 ⟨rfl, rfl⟩
  go_wp2_with fail
  refine (HS.out _ (by go_grown)).mono ?_
  rintro e w1 ⟨v, rfl, hp⟩
  have HP := Lib.hid hp
  clear hp
  go_wp2
  go_returns
  exact ⟨_, rfl, HP.out⟩

end Go.Proofs.Ytobponaenabpgaa.Rd
