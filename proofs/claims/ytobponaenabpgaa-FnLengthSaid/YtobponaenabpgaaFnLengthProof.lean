/- For every duration and every seconds and nanoseconds the law FnLength returns true and its arguments read as before. No condition beyond the row's own.
   The frame of the row's proof was written by the kit's proof-skeleton.mjs. -/
import Derived.Test.YtobponaenabpgaaRows
import Derived.Test.YtobponaenabpgaaLenWalks
import Derived.Test.YtobponaenabpgaaLenSpec
import Derived.WalkKit
import Derived.ProofKit
import Derived.OpenShut
import Derived.ShutString
namespace Go.Proofs.Ytobponaenabpgaa.fnLength
open Go.ChangeShapes Go.WideShapes Go.ChangeAt Go.RowKit Ln
open Go.ChangeMaps (open_string shut_string)
set_option linter.unusedVariables false      -- a walk need not use every 'w<i>' (that an integer argument fits its kind)

theorem own : ownKnob Try.prog.godebug = none := by kernel_rfl

/-! ### STEP 1: THE WALK: the Go text returns true. 'Grown w w'': the world has at most new blocks (Derived/RowKit3.lean). Part the cases AHEAD of 'go_enter' where a test parts the walk; take each callee by a contract of your own. -/
theorem sp_yes (s n : Int) (w : World) (h : durOk s n) : Calls Try.prog 14 #[.int .i64 s, .int .i64 n] w (SpecPost s n true w) := by
  unfold durOk at h
  by_cases h1 : s = 9223372036
  · subst h1; exact sp_eP n w (by omega) (by omega)
  by_cases h2 : s = -9223372036
  · subst h2
    by_cases h3 : n = -854775808
    · subst h3; exact sp_eN_min w
    · exact sp_eN n w (by omega) (by omega)
  by_cases h4 : 0 < s ∨ s = 0 ∧ 0 ≤ n
  · exact sp_P s n w (by omega) (by omega) (by omega) (by omega)
  · exact sp_N s n w (by omega) (by omega) (by omega) (by omega)

theorem sp_no (s n : Int) (w : World) (h : ¬ durOk s n) : Calls Try.prog 14 #[.int .i64 s, .int .i64 n] w (SpecPost s n false w) := by
  unfold durOk at h
  by_cases h1 : s < -315576000000
  · exact sp_lo s n w h1
  by_cases h2 : 315576000000 < s
  · exact sp_hi s n w h2
  by_cases h3 : n ≤ -1000000000
  · exact sp_nlo s n w (by omega) (by omega) h3
  by_cases h4 : 1000000000 ≤ n
  · exact sp_nhi s n w (by omega) (by omega) h4
  by_cases h5 : s < 0 ∧ 0 < n
  · exact sp_np s n w h5.1 (by omega) h5.2 (by omega)
  by_cases h6 : 0 < s ∧ n < 0
  · exact sp_pn s n w h6.1 (by omega) h6.2 (by omega)
  by_cases h7 : 9223372037 ≤ s
  · exact sp_wideP s n w h7 (by omega) (by omega) (by omega)
  by_cases h8 : s ≤ -9223372037
  · exact sp_wideN s n w h8 (by omega) (by omega) (by omega)
  by_cases h9 : 0 < s
  · obtain rfl : s = 9223372036 := by omega
    exact sp_eP_no n w (by omega) (by omega)
  · obtain rfl : s = -9223372036 := by omega
    exact sp_eN_no n w (by omega) (by omega)

/-- A walk of the law where seconds and nanoseconds are a duration. -/
theorem walk_yes (a0 : Int) (a1 : Int) (a2 : Int) (h0 : -9223372036854775808 ≤ a0) (h1 : a0 ≤ 9223372036854775807) (hok : durOk a1 a2) (w : World) :
    Calls Try.prog 4 #[.int .i64 a0, .int .i64 a1, .int .i32 a2] w fun e w' => e = .returned (.bool true) ∧ Below w.heap.size w w' := by
  have bq := tdiv_bd a0 h0 h1
  have bm := tmod_bd a0
  have bn : -1000000000 < a2 ∧ a2 < 1000000000 := by unfold durOk at hok; omega
  go_enter Try.func4, Try.ntmps4
  go_wp2_with fail
  refine (span_any a0 _ h0 h1).mono ?_
  rintro e w1 ⟨rfl, hb1⟩
  go_wp2_with fail
  refine (len_yes a1 a2 _ hok).mono ?_
  rintro e w2 ⟨v, hv, rfl, hb2⟩
  obtain rfl := hv (by trivial)
  clear hv
  go_wp2_with fail
  refine (sp_yes a1 a2 _ hok).mono ?_
  rintro e w3 ⟨v', hv', rfl, rfl⟩
  obtain rfl := hv' (by trivial)
  clear hv'
  go_wp2
  go_ret
  exact ⟨rfl, hb1.trans (hb2.mono hb1.size)⟩

/-- A walk of the law where they are none. -/
theorem walk_no (a0 : Int) (a1 : Int) (a2 : Int) (h0 : -9223372036854775808 ≤ a0) (h1 : a0 ≤ 9223372036854775807) (hok : ¬ durOk a1 a2) (bn : -2147483648 ≤ a2) (bn' : a2 ≤ 2147483647) (w : World) :
    Calls Try.prog 4 #[.int .i64 a0, .int .i64 a1, .int .i32 a2] w fun e w' => e = .returned (.bool true) ∧ Below w.heap.size w w' := by
  have bq := tdiv_bd a0 h0 h1
  have bm := tmod_bd a0
  go_enter Try.func4, Try.ntmps4
  go_wp2_with fail
  refine (span_any a0 _ h0 h1).mono ?_
  rintro e w1 ⟨rfl, hb1⟩
  go_wp2_with fail
  refine (len_no a1 a2 _ hok).mono ?_
  rintro e w2 ⟨v, hv, rfl, hb2⟩
  go_wp2_with fail
  refine (sp_no a1 a2 _ hok).mono ?_
  rintro e w3 ⟨v', hv', rfl, rfl⟩
  clear hv hv'
  go_wp2
  go_ret
  exact ⟨rfl, hb1.trans (hb2.mono hb1.size)⟩

theorem walk (a0 : Int) (a1 : Int) (a2 : Int) (w0 : (Lit.int .i64 a0).wf = true) (w1 : (Lit.int .i64 a1).wf = true) (w2 : (Lit.int .i32 a2).wf = true) (w : World) :
    Calls Try.prog 4 #[.int .i64 a0, .int .i64 a1, .int .i32 a2] w fun e w' => e = .returned (.bool true) ∧ Below w.heap.size w w' := by
  have b0 := bounds_i64 w0
  have b2 := bounds_i32 w2
  by_cases hok : durOk a1 a2
  · exact walk_yes a0 a1 a2 (by omega) (by omega) hok w
  · exact walk_no a0 a1 a2 (by omega) (by omega) hok (by omega) (by omega) w

/-! ### THE ROW's STEP: WRITTEN OUT: LEAVE IT -/
set_option maxRecDepth 100000 in
theorem lifted (os : Os) (started : os.Started) (H : Type) (enc : TypeId × Value → H) :
    ReturnsInHanded {} Try.checked os 4 .any (Rows.fnLengthSpec.pre6 enc Try.prog Try.f4 Rows.fnLengthRow.domain false) (Rows.fnLengthSpec.post enc Try.prog Try.f4 false true false false) := by
  refine returnsInHanded_of_change (C := Try.checked) own started (by kernel_rfl) Try.func4
    (ChangeSpec.witness6 (enc := enc) (C := Try.checked) false ⟨#[], #[.int .i64 0, .int .i64 0, .int .i32 0], []⟩ 8 (by kernel_rfl) (by kernel_rfl) (by kernel_rfl) (by kernel_rfl)) ?_
  intro W base args ds gs before hval0 hW hcnd _
  have hval : ∀ (j : Nat) t v, Try.f4.params[j]? = some t → args[j]? = some v → Value.okWide Try.prog W .any base t v := hval0
  have hW' := hW
  obtain ⟨p, q, hA0, hV, rfl, hfz, hnd⟩ := hW
  have hA : DataW.TrodAll enc Try.prog W 0 (fun _ => true) true Try.f4.params.toList args.toList ds p := hA0
  rw [Try.params4] at hA hval
  obtain ⟨v0, vs0, d0, ds0, p0, q0, hargs, rfl, rfl, h0, r0⟩ := trodAll_cons hA
  obtain ⟨v1, vs1, d1, ds1, p1, q1, rfl, rfl, rfl, h1, r1⟩ := trodAll_cons r0
  obtain ⟨v2, vs2, d2, ds2, p2, q2, rfl, rfl, rfl, h2, r2⟩ := trodAll_cons r1
  obtain ⟨rfl, rfl, rfl⟩ := trodAll_nil r2
  obtain rfl : args = #[v0, v1, v2] := by cases args; simp_all
  obtain ⟨rfl, rfl⟩ := trodVars_none hV
  obtain ⟨a0, rfl, rfl, rfl, w0⟩ := open_int Try.underlying2 (hval 0 2 v0 rfl rfl) h0
  obtain ⟨a1, rfl, rfl, rfl, w1⟩ := open_int Try.underlying2 (hval 1 2 v1 rfl rfl) h1
  obtain ⟨a2, rfl, rfl, rfl, w2⟩ := open_int Try.underlying21 (hval 2 21 v2 rfl rfl) h2
  clear hA0 hval0
  simp only [List.append_nil] at hW'
  refine (walk a0 a1 a2 w0 w1 w2 W).mono fun e W' ⟨he, bel⟩ => ?_
  subst he
  exact ⟨_, rfl, _, _, _, [], _, [], hW', trodAll_mk1 (shut_bool Try.underlying4 _), (trodAll_cons_mk (shut_int Try.underlying2 w0) (trodAll_cons_mk (shut_int Try.underlying2 w1) (trodAll_cons_mk (shut_int Try.underlying21 w2) trodAll_mk0))), rfl, bel.frame _, fun h => by cases h⟩

theorem over : Rows.fnLengthRow.holds Try.pinned (OpenSpec.ofChange Rows.fnLengthSpec) :=
  OpenClaim.holds_of_wide 4 Try.f4 rfl rfl rfl rfl rfl rfl rfl ⟨rfl, rfl, rfl, rfl, rfl⟩ rfl rfl rfl rfl rfl (by kernel_rfl) Try.func4 (by kernel_rfl)
    (of_decide_eq_true (by kernel_rfl)) (by unfold Func.isWrapper; first | (rw [if_pos (by decide +kernel)]; kernel_rfl) | (rw [if_neg (by decide +kernel)]; exact ⟨rfl, rfl⟩))
    (fun os started H enc _ => lifted os started H enc)

/-- ████ THE STATEMENT ████ -/
theorem proved : Rows.FnLengthSaid :=
  over
#print axioms proved
end Go.Proofs.Ytobponaenabpgaa.fnLength
