/- Contracts of the duration functions: Span and Length of the thin package, Length of the reference. -/
import Derived.Test.YtobponaenabpgaaRows
import Derived.WalkKit
import Derived.ProofKit
import Derived.OpenShut
import Derived.Outline
import Derived.BigQuiet
import Derived.Deep.QuietTactic
import Derived.Below
import Derived.Lib.Hide
import Derived.RegionTactic
import Derived.Handy
import Derived.WalkLawsBesides
namespace Go.Proofs.Ytobponaenabpgaa.Ln
open Go.ChangeShapes Go.WideShapes Go.ChangeAt Go.RowKit
set_option linter.unusedVariables false

def SpanPost (d : Int) (w : World) (e : Ending) (w' : World) : Prop :=
  e = .returned (.tuple #[.int .i64 (d.tdiv 1000000000), .int .i32 (d.tmod 1000000000)]) ∧ Below w.heap.size w w'

theorem tdm (d : Int) : d.tdiv 1000000000 * 1000000000 + d.tmod 1000000000 = d := by
  have := Int.tdiv_mul_add_tmod d 1000000000
  omega
theorem tmod_bd (d : Int) : -1000000000 < d.tmod 1000000000 ∧ d.tmod 1000000000 < 1000000000 := by
  have h1 := Int.tmod_lt_of_pos d (b := 1000000000) (by omega)
  have h2 := Int.lt_tmod_of_pos d (b := 1000000000) (by omega)
  omega
theorem span_eq (d : Int) : d - d.tdiv 1000000000 * 1000000000 = d.tmod 1000000000 := by
  have := tdm d
  omega
theorem tdiv_bd (d : Int) (h0 : -9223372036854775808 ≤ d) (h1 : d ≤ 9223372036854775807) : -9223372036 ≤ d.tdiv 1000000000 ∧ d.tdiv 1000000000 ≤ 9223372036 := by
  have e := tdm d
  have b := tmod_bd d
  by_cases h : 0 ≤ d
  · have := Int.tmod_nonneg (a := d) 1000000000 h
    omega
  · have := Int.tmod_nonneg (a := -d) 1000000000 (by omega)
    rw [Int.neg_tmod] at this
    omega
theorem ret2 {k l : IntKind} {a b c d : Int} (h : a = c) (h' : b = d) : Ending.returned (.tuple #[.int k a, .int l b]) = .returned (.tuple #[.int k c, .int l d]) := by rw [h, h']

theorem span_any (d : Int) (w : World) (h0 : -9223372036854775808 ≤ d) (h1 : d ≤ 9223372036854775807) :
    Calls Try.prog 12 #[.int .i64 d] w (SpanPost d w) := by
  have e := tdm d
  have b := tmod_bd d
  have b0 := tdiv_bd d h0 h1
  have b1 : -1000000000 < d - d.tdiv 1000000000 * 1000000000 := by omega
  have b2 : d - d.tdiv 1000000000 * 1000000000 < 1000000000 := by omega
  have b3 : -9223372036854775808 ≤ d.tdiv 1000000000 * 1000000000 := by omega
  have b4 : d.tdiv 1000000000 * 1000000000 ≤ 9223372036854775807 := by omega
  clear e b b0
  go_enter Try.func12, Try.ntmps12
  go_wp2
  go_quiet (fail)
  go_wp2
  go_returns
  exact ⟨ret2 rfl (span_eq d), below_drewN ((Below.refl _ _).alloc (Nat.le_refl _) _) _⟩

def LenPost (s n : Int) (ok : Bool) (w : World) (e : Ending) (w' : World) : Prop :=
  ∃ v : Int, (ok = true → v = s * 1000000000 + n) ∧ e = .returned (.tuple #[.int .i64 v, .bool ok]) ∧ Below w.heap.size w w'

theorem len_lo (s n : Int) (w : World) (h : s < -315576000000) :
    Calls Try.prog 13 #[.int .i64 s, .int .i32 n] w (LenPost s n false w) := by
  go_enter Try.func13, Try.ntmps13
  go_wp2
  go_quiet (fail)
  go_wp2
  go_returns
  exact ⟨0, (fun h => by cases h), rfl, below_drewN (by go_grown) _⟩

theorem len_hi (s n : Int) (w : World) (h : 315576000000 < s) :
    Calls Try.prog 13 #[.int .i64 s, .int .i32 n] w (LenPost s n false w) := by
  go_enter Try.func13, Try.ntmps13
  go_wp2
  go_quiet (fail)
  go_wp2
  go_returns
  exact ⟨0, (fun h => by cases h), rfl, below_drewN (by go_grown) _⟩

theorem len_nlo (s n : Int) (w : World) (h : s ≤ 315576000000) (h' : -315576000000 ≤ s) (h2 : n ≤ -1000000000) :
    Calls Try.prog 13 #[.int .i64 s, .int .i32 n] w (LenPost s n false w) := by
  go_enter Try.func13, Try.ntmps13
  go_wp2
  go_quiet (fail)
  go_wp2
  go_returns
  exact ⟨0, (fun h => by cases h), rfl, below_drewN (by go_grown) _⟩

theorem len_nhi (s n : Int) (w : World) (h : s ≤ 315576000000) (h' : -315576000000 ≤ s) (h2 : 1000000000 ≤ n) :
    Calls Try.prog 13 #[.int .i64 s, .int .i32 n] w (LenPost s n false w) := by
  go_enter Try.func13, Try.ntmps13
  go_wp2
  go_quiet (fail)
  go_wp2
  go_returns
  exact ⟨0, (fun h => by cases h), rfl, below_drewN (by go_grown) _⟩

theorem len_np (s n : Int) (w : World) (h : s < 0) (h' : -315576000000 ≤ s) (h2 : 0 < n) (h3 : n < 1000000000) :
    Calls Try.prog 13 #[.int .i64 s, .int .i32 n] w (LenPost s n false w) := by
  go_enter Try.func13, Try.ntmps13
  go_wp2
  go_quiet (fail)
  go_wp2
  go_returns
  exact ⟨0, (fun h => by cases h), rfl, below_drewN (by go_grown) _⟩

theorem len_pn (s n : Int) (w : World) (h : 0 < s) (h' : s ≤ 315576000000) (h2 : n < 0) (h3 : -1000000000 < n) :
    Calls Try.prog 13 #[.int .i64 s, .int .i32 n] w (LenPost s n false w) := by
  go_enter Try.func13, Try.ntmps13
  go_wp2
  go_quiet (fail)
  go_wp2
  go_returns
  exact ⟨0, (fun h => by cases h), rfl, below_drewN (by go_grown) _⟩

theorem tdiv_wide (s : Int) (h : 9223372037 ≤ s ∨ s ≤ -9223372037) : (wrap64 ((wrap64 (s * 1000000000)).tdiv 1000000000) != s) = true := by
  have hw : -9223372036854775808 ≤ wrap64 (s * 1000000000) ∧ wrap64 (s * 1000000000) ≤ 9223372036854775807 := by unfold wrap64; omega
  have := tdiv_bd _ hw.1 hw.2
  rw [bne_iff_ne, IntWalk.wrap64_in _ (by omega)]
  omega
theorem tdiv_back (s : Int) : (s * 1000000000).tdiv 1000000000 = s := by
  rw [Int.mul_tdiv_cancel]; omega
theorem tdiv_same (s : Int) : ((s * 1000000000).tdiv 1000000000 != s) = false := by
  rw [tdiv_back]; simp
theorem tdiv_same2 (s : Int) (h : -9223372036 ≤ s) (h' : s ≤ 9223372036) : (wrap64 ((s * 1000000000).tdiv 1000000000) != s) = false := by
  rw [tdiv_back, IntWalk.wrap64_in _ (by omega)]; simp
theorem wrap_over (a : Int) (h : 9223372036854775807 < a) (h' : a ≤ 18446744073709551615) : wrap64 a < 0 := by unfold wrap64; omega
theorem wrap_under (a : Int) (h : a < -9223372036854775808) (h' : -18446744073709551616 ≤ a) : 0 ≤ wrap64 a := by unfold wrap64; omega

theorem len_wideP (s n : Int) (w : World) (h : 9223372037 ≤ s) (h' : s ≤ 315576000000) (h2 : 0 ≤ n) (h3 : n < 1000000000) (hne : (wrap64 ((wrap64 (s * 1000000000)).tdiv 1000000000) != s) = true) :
    Calls Try.prog 13 #[.int .i64 s, .int .i32 n] w (LenPost s n false w) := by
  go_enter Try.func13, Try.ntmps13
  go_wp2
  go_quiet (fail)
  go_wp2
  go_returns
  exact ⟨0, (fun h => by cases h), rfl, below_drewN (by go_grown) _⟩

theorem len_wideN (s n : Int) (w : World) (h : s ≤ -9223372037) (h' : -315576000000 ≤ s) (h2 : n ≤ 0) (h3 : -1000000000 < n) (hne : (wrap64 ((wrap64 (s * 1000000000)).tdiv 1000000000) != s) = true) :
    Calls Try.prog 13 #[.int .i64 s, .int .i32 n] w (LenPost s n false w) := by
  go_enter Try.func13, Try.ntmps13
  go_wp2
  go_quiet (fail)
  go_wp2
  go_returns
  exact ⟨0, (fun h => by cases h), rfl, below_drewN (by go_grown) _⟩

theorem len_zP (s n : Int) (w : World) (h : 0 ≤ s) (h' : s ≤ 9223372036) (h2 : n = 0) :
    Calls Try.prog 13 #[.int .i64 s, .int .i32 n] w (LenPost s n true w) := by
  go_enter Try.func13, Try.ntmps13
  go_wp2
  all_goals
    go_quiet (fail)
    go_wp2
    go_returns
    exact ⟨s * 1000000000, (fun h => by omega), rfl, below_drewN (by go_grown) _⟩

theorem len_zN (s n : Int) (w : World) (h : s < 0) (h' : -9223372036 ≤ s) (h2 : n = 0) :
    Calls Try.prog 13 #[.int .i64 s, .int .i32 n] w (LenPost s n true w) := by
  go_enter Try.func13, Try.ntmps13
  go_wp2
  all_goals
    go_quiet (fail)
    go_wp2
    go_returns
    exact ⟨s * 1000000000, (fun h => by omega), rfl, below_drewN (by go_grown) _⟩

theorem len_P (s n : Int) (w : World) (h : 0 ≤ s) (h' : s ≤ 9223372036) (h2 : 0 < n) (h3 : n < 1000000000) (h4 : s * 1000000000 + n ≤ 9223372036854775807) (d1 : decide (s * 1000000000 + n < 0) = false) (d2 : decide (n < 0) = false) (hne : ((s * 1000000000).tdiv 1000000000 != s) = false) (hne2 : (wrap64 ((s * 1000000000).tdiv 1000000000) != s) = false) :
    Calls Try.prog 13 #[.int .i64 s, .int .i32 n] w (LenPost s n true w) := by
  go_enter Try.func13, Try.ntmps13
  go_wp2
  all_goals
    go_quiet (fail)
    go_wp2
    go_returns
    exact ⟨s * 1000000000 + n, (fun h => by omega), rfl, below_drewN (by go_grown) _⟩

theorem len_N (s n : Int) (w : World) (h : s ≤ 0) (h' : -9223372036 ≤ s) (h2 : n < 0) (h3 : -1000000000 < n) (h4 : -9223372036854775808 ≤ s * 1000000000 + n) (d1 : decide (s * 1000000000 + n < 0) = true) (d2 : decide (n < 0) = true) (hne : ((s * 1000000000).tdiv 1000000000 != s) = false) (hne2 : (wrap64 ((s * 1000000000).tdiv 1000000000) != s) = false) :
    Calls Try.prog 13 #[.int .i64 s, .int .i32 n] w (LenPost s n true w) := by
  go_enter Try.func13, Try.ntmps13
  go_wp2
  all_goals
    go_quiet (fail)
    go_wp2
    go_returns
    exact ⟨s * 1000000000 + n, (fun h => by omega), rfl, below_drewN (by go_grown) _⟩

theorem len_oP (s n : Int) (w : World) (h : 0 < s) (h' : s ≤ 9223372036) (h2 : 0 < n) (h3 : n < 1000000000) (h4 : wrap64 (s * 1000000000 + n) < 0) (d1 : decide (wrap64 (s * 1000000000 + n) < 0) = true) (d2 : decide (n < 0) = false) (hne : ((s * 1000000000).tdiv 1000000000 != s) = false) (hne2 : (wrap64 ((s * 1000000000).tdiv 1000000000) != s) = false) :
    Calls Try.prog 13 #[.int .i64 s, .int .i32 n] w (LenPost s n false w) := by
  go_enter Try.func13, Try.ntmps13
  go_wp2
  go_quiet (fail)
  go_wp2
  go_returns
  exact ⟨0, (fun h => by cases h), rfl, below_drewN (by go_grown) _⟩

theorem len_oN (s n : Int) (w : World) (h : s < 0) (h' : -9223372036 ≤ s) (h2 : n < 0) (h3 : -1000000000 < n) (h4 : 0 ≤ wrap64 (s * 1000000000 + n)) (d1 : decide (wrap64 (s * 1000000000 + n) < 0) = false) (d2 : decide (n < 0) = true) (hne : ((s * 1000000000).tdiv 1000000000 != s) = false) (hne2 : (wrap64 ((s * 1000000000).tdiv 1000000000) != s) = false) :
    Calls Try.prog 13 #[.int .i64 s, .int .i32 n] w (LenPost s n false w) := by
  go_enter Try.func13, Try.ntmps13
  go_wp2
  go_quiet (fail)
  go_wp2
  go_returns
  exact ⟨0, (fun h => by cases h), rfl, below_drewN (by go_grown) _⟩

/-- Seconds and nanoseconds that are a duration of at most 64 bits of nanoseconds. -/
def durOk (s n : Int) : Prop := -315576000000 ≤ s ∧ s ≤ 315576000000 ∧ -1000000000 < n ∧ n < 1000000000 ∧ ¬ (s < 0 ∧ 0 < n) ∧ ¬ (0 < s ∧ n < 0) ∧ -9223372036854775808 ≤ s * 1000000000 + n ∧ s * 1000000000 + n ≤ 9223372036854775807

theorem len_yes (s n : Int) (w : World) (h : durOk s n) : Calls Try.prog 13 #[.int .i64 s, .int .i32 n] w (LenPost s n true w) := by
  unfold durOk at h
  have hs : -9223372036 ≤ s ∧ s ≤ 9223372036 := by omega
  rcases Int.lt_trichotomy n 0 with hn | hn | hn
  · exact len_N s n w (by omega) (by omega) hn (by omega) (by omega) (by simp; omega) (by simp; omega) (tdiv_same s) (tdiv_same2 s hs.1 hs.2)
  · by_cases h0 : 0 ≤ s
    · exact len_zP s n w h0 hs.2 hn
    · exact len_zN s n w (by omega) hs.1 hn
  · exact len_P s n w (by omega) (by omega) hn (by omega) (by omega) (by simp; omega) (by simp; omega) (tdiv_same s) (tdiv_same2 s hs.1 hs.2)

theorem len_no (s n : Int) (w : World) (h : ¬ durOk s n) : Calls Try.prog 13 #[.int .i64 s, .int .i32 n] w (LenPost s n false w) := by
  unfold durOk at h
  by_cases h1 : s < -315576000000
  · exact len_lo s n w h1
  by_cases h2 : 315576000000 < s
  · exact len_hi s n w h2
  by_cases h3 : n ≤ -1000000000
  · exact len_nlo s n w (by omega) (by omega) h3
  by_cases h4 : 1000000000 ≤ n
  · exact len_nhi s n w (by omega) (by omega) h4
  by_cases h5 : s < 0 ∧ 0 < n
  · exact len_np s n w h5.1 (by omega) h5.2 (by omega)
  by_cases h6 : 0 < s ∧ n < 0
  · exact len_pn s n w h6.1 (by omega) h6.2 (by omega)
  by_cases h7 : 9223372037 ≤ s
  · exact len_wideP s n w h7 (by omega) (by omega) (by omega) (tdiv_wide s (.inl h7))
  by_cases h8 : s ≤ -9223372037
  · exact len_wideN s n w h8 (by omega) (by omega) (by omega) (tdiv_wide s (.inr h8))
  by_cases h9 : 0 < s
  · have hw := wrap_over (s * 1000000000 + n) (by omega) (by omega)
    exact len_oP s n w h9 (by omega) (by omega) (by omega) hw (by simpa using hw) (by simp; omega) (tdiv_same s) (tdiv_same2 s (by omega) (by omega))
  · have hw := wrap_under (s * 1000000000 + n) (by omega) (by omega)
    exact len_oN s n w (by omega) (by omega) (by omega) (by omega) hw (by simpa using hw) (by simp; omega) (tdiv_same s) (tdiv_same2 s (by omega) (by omega))

end Go.Proofs.Ytobponaenabpgaa.Ln
