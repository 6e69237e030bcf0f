/- Contracts of the timestamps' functions. -/
import Derived.Test.YtobponaenabpgaaRows
import Derived.Test.YtobponaenabpgaaStWalks2
import Derived.WalkKit
import Derived.ProofKit
import Derived.OpenShut
import Derived.Outline
import Derived.BigQuiet
import Derived.Deep.QuietTactic
import Derived.Below
import Derived.Lib.Hide
import Derived.RegionTactic
import Derived.Handy
import Derived.WalkLawsBesides
import Derived.Laws.BitsAllLaws
import Derived.Deep.RegionWith
namespace Go.Proofs.Ytobponaenabpgaa.St
open Go.ChangeShapes Go.WideShapes Go.ChangeAt Go.RowKit
set_option linter.unusedVariables false

set_option maxHeartbeats 1000000 in
theorem zzts_yes (s n : Int) (w : World) (h0 : 0 ≤ n) (h1 : n < 1000000000) (h2 : -62135596800 ≤ s) (h3 : s < 253402300800) :
    Calls Try.prog 41 #[.agg #[.int .u64 n, .int .i64 (s + 62135596800), .pointer none]] w fun e w' => e = .returned (.tuple #[.int .i64 s, .int .i32 n, .nilIface]) ∧ Below w.heap.size w w' := by
  have Hp := Lib.hid fun W => proto_yes s n W h0 h1 h2 h3
  go_enter Try.func41, Try.ntmps41
  go_wp2_with fail
  refine (Hp.out _).mono ?_
  rintro e w1 ⟨b, hb0, hb, rfl, k0, k1, hb1⟩
  have B1 : Below w.heap.size w w1 := below_then (by go_grown) hb1
  have HB := Lib.hid B1
  clear B1 hb1
  go_wp2_with fail
  go_quiet (fail)
  go_wp2
  go_returns
  exact ⟨rfl, below_drewN HB.out _⟩

set_option maxHeartbeats 1000000 in
theorem zzts_no (s n : Int) (w : World) (h0 : 0 ≤ n) (h1 : n < 1000000000) (h2 : s < -62135596800 ∨ 253402300800 ≤ s) (h3 : -500000000000 < s) (h4 : s < 500000000000) :
    Calls Try.prog 41 #[.agg #[.int .u64 n, .int .i64 (s + 62135596800), .pointer none]] w fun e w' => ∃ b, e = .returned (.tuple #[.int .i64 0, .int .i32 0, .iface 122 (.pointer (some ⟨b, 0, none⟩))]) ∧ Below w.heap.size w w' := by
  have Hp : Hid (∀ W, Calls Try.prog 69 #[.agg #[.int .u64 n, .int .i64 (s + 62135596800), .pointer none]] W (ProtoNo W)) := by
    refine Lib.hid fun W => ?_
    rcases h2 with h2 | h2
    · exact proto_lo s n W h0 h1 h2 h3
    · exact proto_hi s n W h0 h1 h2 h4
  clear h2
  go_enter Try.func41, Try.ntmps41
  go_wp2_with fail
  refine (Hp.out _).mono ?_
  rintro e w1 ⟨b, rfl, hb1⟩
  have B1 : Below w.heap.size w w1 := below_then (by go_grown) hb1
  have HB := Lib.hid B1
  clear B1 hb1
  go_wp2
  go_returns
  exact ⟨b, rfl, HB.out⟩

set_option maxHeartbeats 1000000 in
theorem stamp_yes (s n : Int) (w : World) (h0 : 0 ≤ n) (h1 : n < 1000000000) (h2 : -62135596800 ≤ s) (h3 : s < 253402300800) :
    Calls Try.prog 20 #[.int .i64 s, .int .i64 n] w fun e w' => e = .returned (.tuple #[.int .i64 s, .int .i32 n, .bool true]) ∧ Below w.heap.size w w' := by
  have Hu := Lib.hid fun W => unix_any s n W h0 h1 (by omega) (by omega)
  have Hp := Lib.hid fun W => zzts_yes s n W h0 h1 h2 h3
  unfold T3 at *
  go_enter Try.func20, Try.ntmps20
  go_wp2_with fail
  refine (Hu.out _).mono ?_
  rintro e w1 ⟨rfl, hb1⟩
  go_wp2_with fail
  refine (Hp.out _).mono ?_
  rintro e w2 ⟨rfl, hb2⟩
  have HB := Lib.hid (below_then hb1 hb2)
  clear hb1 hb2
  go_wp2_with fail
  go_quiet (fail)
  go_wp2
  go_returns
  exact ⟨rfl, below_drewN HB.out _⟩

set_option maxHeartbeats 1000000 in
theorem stamp_no (s n : Int) (w : World) (h0 : 0 ≤ n) (h1 : n < 1000000000) (h2 : s < -62135596800 ∨ 253402300800 ≤ s) (h3 : -500000000000 < s) (h4 : s < 500000000000) :
    Calls Try.prog 20 #[.int .i64 s, .int .i64 n] w fun e w' => e = .returned (.tuple #[.int .i64 0, .int .i32 0, .bool false]) ∧ Below w.heap.size w w' := by
  have Hu := Lib.hid fun W => unix_any s n W h0 h1 (by omega) (by omega)
  have Hp := Lib.hid fun W => zzts_no s n W h0 h1 h2 h3 h4
  clear h2
  unfold T3 at *
  go_enter Try.func20, Try.ntmps20
  go_wp2_with fail
  refine (Hu.out _).mono ?_
  rintro e w1 ⟨rfl, hb1⟩
  go_wp2_with fail
  refine (Hp.out _).mono ?_
  rintro e w2 ⟨b, rfl, hb2⟩
  have HB := Lib.hid (below_then hb1 hb2)
  clear hb1 hb2
  go_wp2_with fail
  go_quiet (fail)
  go_wp2
  go_returns
  exact ⟨rfl, below_drewN HB.out _⟩

theorem utc_any (n e : Int) (w : World) (h0 : 0 ≤ n) (h1 : n < 1000000000) :
    Calls Try.prog 79 #[T3 n e] w fun r w' => r = .returned (T3 n e) ∧ Below w.heap.size w w' := by
  have a := and_mono n h0 (by omega)
  unfold T3
  go_enter Try.func79, Try.ntmps79
  go_wp2
  go_returns
  exact ⟨rfl, by go_grown⟩

theorem spec_yes (s n : Int) (w : World) (h0 : 0 ≤ n) (h1 : n < 1000000000) (h2 : -62135596800 ≤ s) (h3 : s < 253402300800) :
    Calls Try.prog 21 #[.int .i64 s, .int .i64 n] w fun r w' => r = .returned (.bool true) ∧ w = w' := by
  go_enter Try.func21, Try.ntmps21
  go_wp2
  go_ret
  exact ⟨rfl, rfl⟩

theorem spec_lo (s n : Int) (w : World) (h2 : s < -62135596800) :
    Calls Try.prog 21 #[.int .i64 s, .int .i64 n] w fun r w' => r = .returned (.bool false) ∧ w = w' := by
  go_enter Try.func21, Try.ntmps21
  go_wp2
  go_ret
  exact ⟨rfl, rfl⟩

theorem spec_hi (s n : Int) (w : World) (h2 : 253402300800 ≤ s) :
    Calls Try.prog 21 #[.int .i64 s, .int .i64 n] w fun r w' => r = .returned (.bool false) ∧ w = w' := by
  go_enter Try.func21, Try.ntmps21
  go_wp2
  go_ret
  exact ⟨rfl, rfl⟩

theorem spec_neg (s n : Int) (w : World) (h0 : n < 0) (h2 : -62135596800 ≤ s) (h3 : s < 253402300800) :
    Calls Try.prog 21 #[.int .i64 s, .int .i64 n] w fun r w' => r = .returned (.bool false) ∧ w = w' := by
  go_enter Try.func21, Try.ntmps21
  go_wp2
  go_ret
  exact ⟨rfl, rfl⟩

theorem spec_big (s n : Int) (w : World) (h0 : 1000000000 ≤ n) (h2 : -62135596800 ≤ s) (h3 : s < 253402300800) :
    Calls Try.prog 21 #[.int .i64 s, .int .i64 n] w fun r w' => r = .returned (.bool false) ∧ w = w' := by
  have d : decide (n < 1000000000) = false := by simp; omega
  go_enter Try.func21, Try.ntmps21
  go_wp2
  go_ret
  exact ⟨rfl, rfl⟩

end Go.Proofs.Ytobponaenabpgaa.St
