/- For every field that does not lead back to itself and every bytes the law FnSkip returns true and its arguments read as before. No condition beyond the row's own.
   The frame of the row's proof was written after the one that the kit's proof-skeleton.mjs wrote for another law. -/
import Derived.Test.YtobponaenabpgaaSkLaw
import Derived.Test.YtobponaenabpgaaSkIn
namespace Go.Proofs.Ytobponaenabpgaa.fnSkip
open Go.ChangeShapes Go.WideShapes Go.ChangeAt Go.RowKit Sv Rd Go.Proofs.YtobponaenabpgaaW Go.Proofs.YtobponaenabpgaaW.PrintWords
set_option linter.unusedVariables false

theorem own : ownKnob Try.prog.godebug = none := by kernel_rfl
theorem laidOut : laidOutB Try.prog = true := by kernel_rfl

theorem walk (h : Nat) (t : Tr) (a1 : Option Addr) (len1 cap1 : Nat) (l : List Int) (w : World) (hO : OkT (· < w.heap.size) w h t) (hl : l.length = len1) (h8 : Bytes8 l) (hlc : len1 ≤ cap1) (hn : a1 = none → cap1 = 0) (hm : len1 ≤ 9223372036854775807)
    (hc : 0 < len1 → ∃ ad, a1 = some ad ∧ ∀ j, j < len1 → w.cell? (ad.add j) = some (.int .u8 (at8 l j))) :
    Calls Try.prog 5 #[.agg #[.int .i64 t.num, .int .i64 t.kind, .int .u64 t.n, .slice t.ba t.bytes.length t.bc, .slice t.ia t.ins.length t.ic], .slice a1 len1 cap1] w fun e w' => e = .returned (.bool true) ∧ Below w.heap.size w w' := by
  by_cases h1 : len1 ≤ 2147483647
  · cases a1 with
    | none =>
      obtain rfl := hn rfl
      obtain rfl : len1 = 0 := by omega
      exact skip_walk_none w h t hO
    | some ad =>
      have hR : (l.take (min len1 100)).length = min len1 100 := by rw [List.length_take]; omega
      refine skip_walk w h t hO ad len1 cap1 (l.take (min len1 100)) h1 hR hlc ⟨fun x hx => h8 x (List.mem_of_mem_take hx), by rw [hR]; omega, fun h0 => ⟨ad, rfl, fun j hj => ?_⟩⟩
      rw [hR] at hj
      obtain ⟨ad', e, hcell⟩ := hc (by omega)
      cases e
      rw [hcell j (by omega)]
      simp only [at8, List.getD_eq_getElem?_getD]
      rw [List.getElem?_take_of_lt (by omega)]
  · have b1 : (2147483647 : Int) < (len1 : Int) := by omega
    clear hO hl h8 hc hn hlc h1
    go_enter Try.func5, Try.ntmps5
    go_wp2_with fail
    refine (fits3 _ _ _ _ _ _ _ _ _ _).mono ?_
    rintro e w1 ⟨b, rfl, hb⟩
    obtain ⟨y0, y1, y2, y3, y4⟩ := fbox hb
    have HB1 := Lib.hid ((wa_below w _).trans (hb.mono (wa_below w _).size))
    clear hb
    cases b
    all_goals
      go_wp2_with fail
      go_returns
      exact ⟨rfl, HB1.out⟩

/-! ### THE ROW's STEP -/
set_option maxRecDepth 100000 in
theorem lifted (os : Os) (started : os.Started) (H : Type) (enc : TypeId × Value → H) :
    ReturnsInHanded {} Try.checked os 5 .any (Rows.fnSkipSpec.pre6 enc Try.prog Try.f5 Rows.fnSkipRow.domain false) (Rows.fnSkipSpec.post enc Try.prog Try.f5 false true false false) := by
  refine returnsInHanded_of_change (C := Try.checked) own started (by kernel_rfl) Try.func5
    (ChangeSpec.witness6 (enc := enc) (C := Try.checked) false ⟨#[], #[.agg #[.int .i64 0, .int .i64 0, .int .u64 0, .slice none 0 0, .slice none 0 0], .slice none 0 0], []⟩ 8 (by kernel_rfl) (by kernel_rfl) (by kernel_rfl) (by kernel_rfl)) ?_
  intro W base args ds gs before hval0 hW hcnd _
  have hval : ∀ (j : Nat) t v, Try.f5.params[j]? = some t → args[j]? = some v → Value.okWide Try.prog W .any base t v := hval0
  have hW' := hW
  obtain ⟨p, q, hA0, hV, rfl, hfz, hnd⟩ := hW
  have hA : DataW.TrodAll enc Try.prog W 0 (fun _ => true) true Try.f5.params.toList args.toList ds p := hA0
  rw [Try.params5] at hA hval
  obtain ⟨v0, vs0, d0, ds0, p0, q0, hargs, rfl, rfl, h0, r0⟩ := trodAll_cons hA
  obtain ⟨v1, vs1, d1, ds1, p1, q1, rfl, rfl, rfl, h1, r1⟩ := trodAll_cons r0
  obtain ⟨rfl, rfl, rfl⟩ := trodAll_nil r1
  obtain rfl : args = #[v0, v1] := by cases args; simp_all
  obtain ⟨rfl, rfl⟩ := trodVars_none hV
  have k0 := h0
  have lt0 : ∀ x ∈ p0, x.block < W.heap.size := by obtain ⟨m, hm⟩ := k0; exact DataW.trod_lt m _ _ _ hm
  obtain ⟨cs, rfl, hsz⟩ := okWide_struct Try.underlying38 (hval 0 38 v0 rfl rfl)
  obtain ⟨fuel, t, rfl, hO⟩ : ∃ (fuel : Nat) (t : Tr), cs = #[.int .i64 t.num, .int .i64 t.kind, .int .u64 t.n, .slice t.ba t.bytes.length t.bc, .slice t.ia t.ins.length t.ic] ∧ OkT (· < W.heap.size) W fuel t := by
    obtain ⟨fuel, hf⟩ := h0
    obtain ⟨l⟩ := cs
    obtain ⟨t, e, hO⟩ := tree_in fuel hf
    have e' : l = cellsT t := e
    subst e'
    exact ⟨fuel, t, rfl, hO⟩
  obtain ⟨a1, len1, cap1, rfl⟩ := okWide_slice Try.underlying23 (hval 1 23 v1 rfl rfl)
  have k1 := h1
  have lt1 : ∀ x ∈ p1, x.block < W.heap.size := by obtain ⟨m, hm⟩ := k1; exact DataW.trod_lt m _ _ _ hm
  obtain ⟨l, hl, h8, hlc, hn, hm, hc⟩ : ∃ l : List Int, l.length = len1 ∧ Bytes8 l ∧ len1 ≤ cap1 ∧ (a1 = none → cap1 = 0) ∧ len1 ≤ 9223372036854775807 ∧ (0 < len1 → ∃ ad, a1 = some ad ∧ ∀ j, j < len1 → W.cell? (ad.add j) = some (.int .u8 (at8 l j))) := by
    obtain ⟨fuel, hf⟩ := h1
    obtain ⟨l, a, c, e, x1, x2, x3, x4, x5⟩ := bytes_in hf
    cases e
    exact ⟨l, rfl, x1, x2, x3, x4, fun h0 => by obtain ⟨ad, e, _, hc⟩ := x5 h0; exact ⟨ad, e, hc⟩⟩
  clear hA0 hval0
  refine (walk fuel t a1 len1 cap1 l W hO hl h8 hlc hn hm hc).mono fun e W' ⟨he, bel⟩ => ?_
  subst he
  exact ⟨_, rfl, _, _, _, [], _, [], hW', trodAll_mk1 (shut_bool Try.underlying4 _), (trodAll_cons_mk (Below.trod laidOut (by kernel_rfl) (of_decide_eq_true (by kernel_rfl)) k0 bel lt0) (trodAll_cons_mk (Below.trod laidOut (by kernel_rfl) (of_decide_eq_true (by kernel_rfl)) k1 bel lt1) trodAll_mk0)), rfl, bel.frame _, fun h => by cases h⟩

theorem over : Rows.fnSkipRow.holds Try.pinned (OpenSpec.ofChange Rows.fnSkipSpec) :=
  OpenClaim.holds_of_wide 5 Try.f5 rfl rfl rfl rfl rfl rfl rfl ⟨rfl, rfl, rfl, rfl, rfl⟩ rfl rfl rfl rfl rfl (by kernel_rfl) Try.func5 (by kernel_rfl)
    (of_decide_eq_true (by kernel_rfl)) (by unfold Func.isWrapper; first | (rw [if_pos (by decide +kernel)]; kernel_rfl) | (rw [if_neg (by decide +kernel)]; exact ⟨rfl, rfl⟩))
    (fun os started H enc _ => lifted os started H enc)

/-- The statement. -/
theorem proved : Rows.FnSkipSaid := over
#print axioms proved
end Go.Proofs.Ytobponaenabpgaa.fnSkip
