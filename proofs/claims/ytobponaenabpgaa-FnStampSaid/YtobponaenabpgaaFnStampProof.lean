/- For every time and every timestamp (seconds below 400,000,000,000, nanoseconds below a second) the law FnStamp returns true and its arguments read as before. No condition beyond the row's own.
   The frame of the row's proof was written by the kit's proof-skeleton.mjs. -/
import Derived.Test.YtobponaenabpgaaRows
import Derived.Test.YtobponaenabpgaaStWalks5
import Derived.Deep.RegionWith
import Derived.Lib.Hide
import Derived.WalkKit
import Derived.ProofKit
import Derived.OpenShut
import Derived.ShutString
namespace Go.Proofs.Ytobponaenabpgaa.fnStamp
open Go.ChangeShapes Go.WideShapes Go.ChangeAt Go.RowKit St
open Go.ChangeMaps (open_string shut_string)
set_option linter.unusedVariables false      -- a walk need not use every 'w<i>' (that an integer argument fits its kind)

theorem own : ownKnob Try.prog.godebug = none := by kernel_rfl

/-! ### STEP 1: THE WALK: the Go text returns true. 'Grown w w'': the world has at most new blocks (Derived/RowKit3.lean). Part the cases AHEAD of 'go_enter' where a test parts the walk; take each callee by a contract of your own. -/
theorem tmod_s (d : Int) : -400000000000 < d.tmod 400000000000 ∧ d.tmod 400000000000 < 400000000000 := by
  have h1 := Int.tmod_lt_of_pos d (b := 400000000000) (by omega)
  have h2 := Int.lt_tmod_of_pos d (b := 400000000000) (by omega)
  omega
theorem spec_no (s n : Int) (w : World) (h : ¬ okTime s n) :
    Calls Try.prog 21 #[.int .i64 s, .int .i64 n] w fun r w' => r = .returned (.bool false) ∧ w = w' := by
  unfold okTime at h
  by_cases h1 : s < -62135596800
  · exact spec_lo s n w h1
  by_cases h2 : 253402300800 ≤ s
  · exact spec_hi s n w h2
  by_cases h3 : n < 0
  · exact spec_neg s n w h3 (by omega) (by omega)
  · exact spec_big s n w (by omega) (by omega) (by omega)
theorem not_ok {s n : Int} (h : s < -62135596800 ∨ 253402300800 ≤ s) : ¬ okTime s n := by unfold okTime; omega

set_option maxHeartbeats 1000000 in
theorem walk_a (a0 : Int) (a1 : Int) (a2 : Int) (h2 : -62135596800 ≤ a0.tmod 400000000000) (h3 : a0.tmod 400000000000 < 253402300800) (h0 : 0 ≤ a2) (h1 : a2 < 1000000000) (w : World) :
    Calls Try.prog 6 #[.int .i64 a0, .int .i64 a1, .int .i32 a2] w fun e w' => e = .returned (.bool true) ∧ Below w.heap.size w w' := by
  have bs := tmod_s a0
  have bm := Ln.tmod_bd a1
  by_cases hn : a1.tmod 1000000000 < 0
  all_goals
    go_enter Try.func6, Try.ntmps6
    go_wp2_with fail
    refine (stamp_yes _ _ _ (by omega) (by omega) h2 h3).mono ?_
    rintro e w1 ⟨rfl, hb1⟩
    go_wp2_with fail
    refine (spec_yes _ _ _ (by omega) (by omega) h2 h3).mono ?_
    rintro e w1' ⟨rfl, rfl⟩
    go_wp2_with fail
    refine (moment_yes _ _ _ h0 h1 h2 h3).mono ?_
    rintro e w2 ⟨rfl, hb2⟩
    go_wp2_with fail
    refine (spec_yes _ _ _ h0 h1 h2 h3).mono ?_
    rintro e w2' ⟨rfl, rfl⟩
    go_wp2
    go_ret
    exact ⟨rfl, below_then hb1 hb2⟩

set_option maxHeartbeats 1000000 in
theorem walk_b (a0 : Int) (a1 : Int) (a2 : Int) (h2 : -62135596800 ≤ a0.tmod 400000000000) (h3 : a0.tmod 400000000000 < 253402300800) (b2 : -2147483648 ≤ a2) (b2' : a2 ≤ 2147483647) (hok : Hid (¬ okTime (a0.tmod 400000000000) a2)) (w : World) :
    Calls Try.prog 6 #[.int .i64 a0, .int .i64 a1, .int .i32 a2] w fun e w' => e = .returned (.bool true) ∧ Below w.heap.size w w' := by
  have bs := tmod_s a0
  have bm := Ln.tmod_bd a1
  by_cases hn : a1.tmod 1000000000 < 0
  all_goals
    go_enter Try.func6, Try.ntmps6
    go_wp2_with fail
    refine (stamp_yes _ _ _ (by omega) (by omega) h2 h3).mono ?_
    rintro e w1 ⟨rfl, hb1⟩
    go_wp2_with fail
    refine (spec_yes _ _ _ (by omega) (by omega) h2 h3).mono ?_
    rintro e w1' ⟨rfl, rfl⟩
    go_wp2_with fail
    refine (moment_no _ _ _ b2 b2' (by omega) (by omega) hok.out).mono ?_
    rintro e w2 ⟨rfl, hb2⟩
    go_wp2_with fail
    refine (spec_no _ _ _ hok.out).mono ?_
    rintro e w2' ⟨rfl, rfl⟩
    go_wp2
    go_ret
    exact ⟨rfl, below_then hb1 hb2⟩

set_option maxHeartbeats 1000000 in
theorem walk_c (a0 : Int) (a1 : Int) (a2 : Int) (hr : Hid (a0.tmod 400000000000 < -62135596800 ∨ 253402300800 ≤ a0.tmod 400000000000)) (b2 : -2147483648 ≤ a2) (b2' : a2 ≤ 2147483647) (w : World) :
    Calls Try.prog 6 #[.int .i64 a0, .int .i64 a1, .int .i32 a2] w fun e w' => e = .returned (.bool true) ∧ Below w.heap.size w w' := by
  have bs := tmod_s a0
  have bm := Ln.tmod_bd a1
  by_cases hn : a1.tmod 1000000000 < 0
  all_goals
    go_enter Try.func6, Try.ntmps6
    go_wp2_with fail
    refine (stamp_no _ _ _ (by omega) (by omega) hr.out (by omega) (by omega)).mono ?_
    rintro e w1 ⟨rfl, hb1⟩
    go_wp2_with fail
    refine (spec_no _ _ _ (not_ok hr.out)).mono ?_
    rintro e w1' ⟨rfl, rfl⟩
    go_wp2_with fail
    refine (moment_no _ _ _ b2 b2' (by omega) (by omega) (not_ok hr.out)).mono ?_
    rintro e w2 ⟨rfl, hb2⟩
    go_wp2_with fail
    refine (spec_no _ _ _ (not_ok hr.out)).mono ?_
    rintro e w2' ⟨rfl, rfl⟩
    go_wp2
    go_ret
    exact ⟨rfl, below_then hb1 hb2⟩

theorem walk (a0 : Int) (a1 : Int) (a2 : Int) (w0 : (Lit.int .i64 a0).wf = true) (w1 : (Lit.int .i64 a1).wf = true) (w2 : (Lit.int .i32 a2).wf = true) (w : World) :
    Calls Try.prog 6 #[.int .i64 a0, .int .i64 a1, .int .i32 a2] w fun e w' => e = .returned (.bool true) ∧ Below w.heap.size w w' := by
  have b2 := bounds_i32 w2
  by_cases hr : a0.tmod 400000000000 < -62135596800 ∨ 253402300800 ≤ a0.tmod 400000000000
  · exact walk_c a0 a1 a2 (Lib.hid hr) (by omega) (by omega) w
  by_cases hok : okTime (a0.tmod 400000000000) a2
  · exact walk_a a0 a1 a2 (by omega) (by omega) hok.1 hok.2.1 w
  · exact walk_b a0 a1 a2 (by omega) (by omega) (by omega) (by omega) (Lib.hid hok) w

/-! ### THE ROW's STEP: WRITTEN OUT: LEAVE IT -/
set_option maxRecDepth 100000 in
theorem lifted (os : Os) (started : os.Started) (H : Type) (enc : TypeId × Value → H) :
    ReturnsInHanded {} Try.checked os 6 .any (Rows.fnStampSpec.pre6 enc Try.prog Try.f6 Rows.fnStampRow.domain false) (Rows.fnStampSpec.post enc Try.prog Try.f6 false true false false) := by
  refine returnsInHanded_of_change (C := Try.checked) own started (by kernel_rfl) Try.func6
    (ChangeSpec.witness6 (enc := enc) (C := Try.checked) false ⟨#[], #[.int .i64 0, .int .i64 0, .int .i32 0], []⟩ 8 (by kernel_rfl) (by kernel_rfl) (by kernel_rfl) (by kernel_rfl)) ?_
  intro W base args ds gs before hval0 hW hcnd _
  have hval : ∀ (j : Nat) t v, Try.f6.params[j]? = some t → args[j]? = some v → Value.okWide Try.prog W .any base t v := hval0
  have hW' := hW
  obtain ⟨p, q, hA0, hV, rfl, hfz, hnd⟩ := hW
  have hA : DataW.TrodAll enc Try.prog W 0 (fun _ => true) true Try.f6.params.toList args.toList ds p := hA0
  rw [Try.params6] at hA hval
  obtain ⟨v0, vs0, d0, ds0, p0, q0, hargs, rfl, rfl, h0, r0⟩ := trodAll_cons hA
  obtain ⟨v1, vs1, d1, ds1, p1, q1, rfl, rfl, rfl, h1, r1⟩ := trodAll_cons r0
  obtain ⟨v2, vs2, d2, ds2, p2, q2, rfl, rfl, rfl, h2, r2⟩ := trodAll_cons r1
  obtain ⟨rfl, rfl, rfl⟩ := trodAll_nil r2
  obtain rfl : args = #[v0, v1, v2] := by cases args; simp_all
  obtain ⟨rfl, rfl⟩ := trodVars_none hV
  obtain ⟨a0, rfl, rfl, rfl, w0⟩ := open_int Try.underlying2 (hval 0 2 v0 rfl rfl) h0
  obtain ⟨a1, rfl, rfl, rfl, w1⟩ := open_int Try.underlying2 (hval 1 2 v1 rfl rfl) h1
  obtain ⟨a2, rfl, rfl, rfl, w2⟩ := open_int Try.underlying21 (hval 2 21 v2 rfl rfl) h2
  clear hA0 hval0
  simp only [List.append_nil] at hW'
  refine (walk a0 a1 a2 w0 w1 w2 W).mono fun e W' ⟨he, bel⟩ => ?_
  subst he
  exact ⟨_, rfl, _, _, _, [], _, [], hW', trodAll_mk1 (shut_bool Try.underlying4 _), (trodAll_cons_mk (shut_int Try.underlying2 w0) (trodAll_cons_mk (shut_int Try.underlying2 w1) (trodAll_cons_mk (shut_int Try.underlying21 w2) trodAll_mk0))), rfl, bel.frame _, fun h => by cases h⟩

theorem over : Rows.fnStampRow.holds Try.pinned (OpenSpec.ofChange Rows.fnStampSpec) :=
  OpenClaim.holds_of_wide 6 Try.f6 rfl rfl rfl rfl rfl rfl rfl ⟨rfl, rfl, rfl, rfl, rfl⟩ rfl rfl rfl rfl rfl (by kernel_rfl) Try.func6 (by kernel_rfl)
    (of_decide_eq_true (by kernel_rfl)) (by unfold Func.isWrapper; first | (rw [if_pos (by decide +kernel)]; kernel_rfl) | (rw [if_neg (by decide +kernel)]; exact ⟨rfl, rfl⟩))
    (fun os started H enc _ => lifted os started H enc)

/-- ████ THE STATEMENT ████ -/
theorem proved : Rows.FnStampSaid :=
  over
#print axioms proved
end Go.Proofs.Ytobponaenabpgaa.fnStamp
