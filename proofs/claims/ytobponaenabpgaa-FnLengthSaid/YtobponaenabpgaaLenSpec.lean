/- Contracts of the reference's Length. -/
import Derived.Test.YtobponaenabpgaaRows
import Derived.WalkKit
import Derived.ProofKit
import Derived.OpenShut
import Derived.Outline
import Derived.BigQuiet
import Derived.Deep.QuietTactic
import Derived.Below
import Derived.Lib.Hide
import Derived.RegionTactic
import Derived.Handy
import Derived.WalkLawsBesides
namespace Go.Proofs.Ytobponaenabpgaa.Ln
open Go.ChangeShapes Go.WideShapes Go.ChangeAt Go.RowKit
set_option linter.unusedVariables false

def SpecPost (s n : Int) (ok : Bool) (w : World) (e : Ending) (w' : World) : Prop :=
  ∃ v : Int, (ok = true → v = s * 1000000000 + n) ∧ e = .returned (.tuple #[.int .i64 v, .bool ok]) ∧ w = w'

theorem sp_lo (s n : Int) (w : World) (h : s < -315576000000) :
    Calls Try.prog 14 #[.int .i64 s, .int .i64 n] w (SpecPost s n false w) := by
  go_enter Try.func14, Try.ntmps14
  go_wp2
  all_goals
    go_returns
    exact ⟨0, (fun h => by cases h), rfl, rfl⟩

theorem sp_hi (s n : Int) (w : World) (h : 315576000000 < s) :
    Calls Try.prog 14 #[.int .i64 s, .int .i64 n] w (SpecPost s n false w) := by
  go_enter Try.func14, Try.ntmps14
  go_wp2
  all_goals
    go_returns
    exact ⟨0, (fun h => by cases h), rfl, rfl⟩

theorem sp_nlo (s n : Int) (w : World) (h : s ≤ 315576000000) (h' : -315576000000 ≤ s) (h2 : n ≤ -1000000000) :
    Calls Try.prog 14 #[.int .i64 s, .int .i64 n] w (SpecPost s n false w) := by
  go_enter Try.func14, Try.ntmps14
  go_wp2
  all_goals
    go_returns
    exact ⟨0, (fun h => by cases h), rfl, rfl⟩

theorem sp_nhi (s n : Int) (w : World) (h : s ≤ 315576000000) (h' : -315576000000 ≤ s) (h2 : 1000000000 ≤ n) :
    Calls Try.prog 14 #[.int .i64 s, .int .i64 n] w (SpecPost s n false w) := by
  go_enter Try.func14, Try.ntmps14
  go_wp2
  all_goals
    go_returns
    exact ⟨0, (fun h => by cases h), rfl, rfl⟩

theorem sp_np (s n : Int) (w : World) (h : s < 0) (h' : -315576000000 ≤ s) (h2 : 0 < n) (h3 : n < 1000000000) :
    Calls Try.prog 14 #[.int .i64 s, .int .i64 n] w (SpecPost s n false w) := by
  go_enter Try.func14, Try.ntmps14
  go_wp2
  all_goals
    go_returns
    exact ⟨0, (fun h => by cases h), rfl, rfl⟩

theorem sp_pn (s n : Int) (w : World) (h : 0 < s) (h' : s ≤ 315576000000) (h2 : n < 0) (h3 : -1000000000 < n) :
    Calls Try.prog 14 #[.int .i64 s, .int .i64 n] w (SpecPost s n false w) := by
  go_enter Try.func14, Try.ntmps14
  go_wp2
  all_goals
    go_returns
    exact ⟨0, (fun h => by cases h), rfl, rfl⟩

theorem sp_wideP (s n : Int) (w : World) (h : 9223372037 ≤ s) (h' : s ≤ 315576000000) (h2 : 0 ≤ n) (h3 : n < 1000000000) :
    Calls Try.prog 14 #[.int .i64 s, .int .i64 n] w (SpecPost s n false w) := by
  go_enter Try.func14, Try.ntmps14
  go_wp2
  all_goals
    go_returns
    exact ⟨0, (fun h => by cases h), rfl, rfl⟩

theorem sp_wideN (s n : Int) (w : World) (h : s ≤ -9223372037) (h' : -315576000000 ≤ s) (h2 : n ≤ 0) (h3 : -1000000000 < n) :
    Calls Try.prog 14 #[.int .i64 s, .int .i64 n] w (SpecPost s n false w) := by
  go_enter Try.func14, Try.ntmps14
  go_wp2
  all_goals
    go_returns
    exact ⟨0, (fun h => by cases h), rfl, rfl⟩

theorem sp_P (s n : Int) (w : World) (h : 0 ≤ s) (h' : s < 9223372036) (h2 : 0 ≤ n) (h3 : n < 1000000000) :
    Calls Try.prog 14 #[.int .i64 s, .int .i64 n] w (SpecPost s n true w) := by
  go_enter Try.func14, Try.ntmps14
  go_wp2
  all_goals
    go_returns
    exact ⟨s * 1000000000 + n, (fun h => by omega), rfl, rfl⟩

theorem sp_N (s n : Int) (w : World) (h : s ≤ 0) (h' : -9223372036 < s) (h2 : n ≤ 0) (h3 : -1000000000 < n) :
    Calls Try.prog 14 #[.int .i64 s, .int .i64 n] w (SpecPost s n true w) := by
  go_enter Try.func14, Try.ntmps14
  go_wp2
  all_goals
    go_returns
    exact ⟨s * 1000000000 + n, (fun h => by omega), rfl, rfl⟩

theorem sp_eP (n : Int) (w : World) (h2 : 0 ≤ n) (h3 : n ≤ 854775807) :
    Calls Try.prog 14 #[.int .i64 9223372036, .int .i64 n] w (SpecPost 9223372036 n true w) := by
  go_enter Try.func14, Try.ntmps14
  go_wp2
  all_goals
    go_returns
    exact ⟨9223372036 * 1000000000 + n, (fun h => by omega), rfl, rfl⟩

theorem sp_eP_no (n : Int) (w : World) (h2 : 854775807 < n) (h3 : n < 1000000000) :
    Calls Try.prog 14 #[.int .i64 9223372036, .int .i64 n] w (SpecPost 9223372036 n false w) := by
  go_enter Try.func14, Try.ntmps14
  go_wp2
  all_goals
    go_returns
    exact ⟨0, (fun h => by cases h), rfl, rfl⟩

theorem sp_eN (n : Int) (w : World) (h2 : n ≤ 0) (h3 : -854775807 ≤ n) :
    Calls Try.prog 14 #[.int .i64 (-9223372036), .int .i64 n] w (SpecPost (-9223372036) n true w) := by
  go_enter Try.func14, Try.ntmps14
  go_wp2
  all_goals
    go_returns
    exact ⟨-9223372036 * 1000000000 + n, (fun h => by omega), rfl, rfl⟩

theorem sp_eN_no (n : Int) (w : World) (h2 : n < -854775808) (h3 : -1000000000 < n) :
    Calls Try.prog 14 #[.int .i64 (-9223372036), .int .i64 n] w (SpecPost (-9223372036) n false w) := by
  go_enter Try.func14, Try.ntmps14
  go_wp2
  all_goals
    go_returns
    exact ⟨0, (fun h => by cases h), rfl, rfl⟩

theorem sp_eN_min  (w : World)  :
    Calls Try.prog 14 #[.int .i64 (-9223372036), .int .i64 (-854775808)] w (SpecPost (-9223372036) (-854775808) true w) := by
  go_enter Try.func14, Try.ntmps14
  go_wp2
  all_goals
    go_returns
    exact ⟨-9223372036854775808, (fun h => by rfl), rfl, rfl⟩

end Go.Proofs.Ytobponaenabpgaa.Ln
