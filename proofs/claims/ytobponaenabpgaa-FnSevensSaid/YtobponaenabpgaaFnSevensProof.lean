/- For every number and every bytes the law FnSevens returns true and its arguments read as before. No condition beyond the row's own.
   The frame of the row's proof was written by the kit's proof-skeleton.mjs. -/
import Derived.Test.YtobponaenabpgaaRows
import Derived.Test.YtobponaenabpgaaSvImpl
import Derived.Test.YtobponaenabpgaaBelow
import Derived.WalkKit
import Derived.ProofKit
import Derived.OpenShut
import Derived.ShutString
import Derived.ChangeOld
import Derived.Below
namespace Go.Proofs.Ytobponaenabpgaa.fnSevens
open Go.ChangeShapes Go.WideShapes Go.ChangeAt Go.RowKit Sv Go.Proofs.YtobponaenabpgaaW Go.Proofs.YtobponaenabpgaaW.PrintWords
open Go.ChangeMaps (open_string shut_string)
set_option linter.unusedVariables false

theorem own : ownKnob Try.prog.godebug = none := by kernel_rfl
theorem laidOut : laidOutB Try.prog = true := by kernel_rfl

/-- WHAT THE WALK IS TOLD OF A SLICE OF INTEGERS THAT CAME IN: it is nil; or it leads to a row of 'cap' cells, the numbers 'zs' (the first 'len' are its elements, the rest its spare room), each fitting its kind. -/
def IsRow (k : IntKind) (w : World) (a : Option Addr) (len cap : Nat) (zs : List Int) : Prop :=
  (a = none ∧ len = 0 ∧ cap = 0 ∧ zs = []) ∨
  ∃ x, a = some x ∧ len ≤ cap ∧ cap ≤ maxLen ∧ zs.length = cap ∧ (∀ i, i < zs.length → w.cell? (x.add i) = some (.int k (zs.getD i 0))) ∧ ∀ n ∈ zs, (Lit.int k n).wf = true

/-! ### STEP 1: THE WALK: the Go text returns true, AND WRITES NOTHING THAT WAS THERE: 'Below w.heap.size w w'' (Derived/Below.lean: '.refl', '.alloc', '.drew', '.setCell' at a new block, '.trans'). Open each 'IsRow' by 'rcases' AHEAD of 'go_enter'; part every test ahead of the walk. -/
/-- The first so many of a row's numbers, held by the slice cut there. -/
theorem holds_of_row {w : World} {a : Option Addr} {len cap : Nat} {z : List Int} (h : IsRow .u8 w a len cap z) (n : Nat) (hn : n ≤ len) : (z.take n).length = n ∧ Holds8 w a (z.take n) ∧ (a = none → n = 0) ∧ len ≤ cap := by
  rcases h with ⟨rfl, rfl, rfl, rfl⟩ | ⟨x, rfl, hl, hm, hz, hc, hw⟩
  · obtain rfl : n = 0 := by omega
    exact ⟨rfl, ⟨fun x hx => by simp at hx, by simp, fun h => by simp at h⟩, fun _ => rfl, Nat.le_refl _⟩
  · have hlen : (z.take n).length = n := by rw [List.length_take]; omega
    refine ⟨hlen, ⟨?_, ?_, ?_⟩, fun h => by simp at h, hl⟩
    · intro x hx
      have := bounds_u8 (hw x (List.mem_of_mem_take hx))
      omega
    · rw [hlen]; simp only [maxLen] at hm; omega
    · intro _
      refine ⟨x, rfl, fun j hj => ?_⟩
      rw [hlen] at hj
      rw [hc j (by omega)]
      simp [at8, List.getD_eq_getElem?_getD, hj]

set_option maxRecDepth 100000 in
theorem walk_mid (n : Nat) (hn : (n : Int) ≤ 18446744073709551615) (a1 : Option Addr) (cap1 : Nat) (l : List Int) (w : World) (hl : l.length ≤ 100) (hc : l.length ≤ cap1) (hh : Holds8 w a1 l) :
    Calls Try.prog 3 #[.int .u64 n, .slice a1 l.length cap1] w fun e w' => e = .returned (.bool true) ∧ Below w.heap.size w w' := by
  obtain ⟨z, k, Hd, Hr⟩ := both l
  have HD := Lib.hid (impl_any n hn a1 cap1 l w hh z k Hd)
  have HR := Lib.hid (fun W (h : Holds8 W a1 l) => Hr W a1 cap1 h)
  have HH := Lib.hid hh
  have HS := Lib.hid (sevens_any n hn)
  clear Hd Hr hh
  go_enter Try.func3, Try.ntmps3
  go_wp2_with fail
  refine HD.out.mono ?_
  rintro e w1 ⟨v, y, m, hk, rfl, ho, hb⟩
  obtain ⟨A, c, rfl⟩ := own_slice ho
  have HB := Lib.hid hb
  have HK := Lib.hid hk
  have HO := Lib.hid ho
  clear hb hk ho
  go_wp2_with fail
  refine (HS.out _).mono ?_
  rintro e w2 ⟨v2, rfl, ho2, hb2⟩
  obtain ⟨A2, c2, rfl⟩ := own_slice ho2
  have HB2 := Lib.hid hb2
  have HO2 := Lib.hid ho2
  clear hb2 ho2
  go_wp2_with fail
  refine (HR.out _ (Holds8.below HH.out (below_two HB.out HB2.out))).mono ?_
  rintro e w3 ⟨rfl, rfl⟩
  have cv1 := own_string (P := Try.prog) (src := 23) (dst := 9) Try.underlying23 Try.underlying5 Try.underlying9 (pw_own_below HO.out HB2.out)
  have cv2 := own_string (P := Try.prog) (src := 23) (dst := 9) Try.underlying23 Try.underlying5 Try.underlying9 HO2.out
  rcases HK.out with hk | ⟨rfl, rfl⟩
  · go_wp2
    go_ret
    exact ⟨rfl, below_two HB.out HB2.out⟩
  · go_wp2
    all_goals
      go_ret
      exact ⟨rfl, below_two HB.out HB2.out⟩

set_option maxRecDepth 100000 in
theorem walk_long (n : Nat) (hn : (n : Int) ≤ 18446744073709551615) (a1 : Option Addr) (cap1 : Nat) (l : List Int) (w : World) (hl : l.length = 100) (len1 : Nat) (h1 : 100 < len1) (h2 : len1 ≤ 2147483647) (h3 : len1 ≤ cap1) (hh : Holds8 w a1 l) :
    Calls Try.prog 3 #[.int .u64 n, .slice a1 len1 cap1] w fun e w' => e = .returned (.bool true) ∧ Below w.heap.size w w' := by
  obtain ⟨z, k, Hd, Hr⟩ := both l
  have HD := Lib.hid (impl_any n hn a1 cap1 l w hh z k Hd)
  have HR := Lib.hid (fun W (h : Holds8 W a1 l) => Hr W a1 cap1 h)
  have HH := Lib.hid hh
  have HS := Lib.hid (sevens_any n hn)
  clear Hd Hr hh
  rw [hl] at HD HR
  go_enter Try.func3, Try.ntmps3
  go_wp2_with fail
  refine HD.out.mono ?_
  rintro e w1 ⟨v, y, m, hk, rfl, ho, hb⟩
  obtain ⟨A, c, rfl⟩ := own_slice ho
  have HB := Lib.hid hb
  have HK := Lib.hid hk
  have HO := Lib.hid ho
  clear hb hk ho
  go_wp2_with fail
  refine (HS.out _).mono ?_
  rintro e w2 ⟨v2, rfl, ho2, hb2⟩
  obtain ⟨A2, c2, rfl⟩ := own_slice ho2
  have HB2 := Lib.hid hb2
  have HO2 := Lib.hid ho2
  clear hb2 ho2
  go_wp2_with fail
  refine (HR.out _ (Holds8.below HH.out (below_two HB.out HB2.out))).mono ?_
  rintro e w3 ⟨rfl, rfl⟩
  have cv1 := own_string (P := Try.prog) (src := 23) (dst := 9) Try.underlying23 Try.underlying5 Try.underlying9 (pw_own_below HO.out HB2.out)
  have cv2 := own_string (P := Try.prog) (src := 23) (dst := 9) Try.underlying23 Try.underlying5 Try.underlying9 HO2.out
  rcases HK.out with hk | ⟨rfl, rfl⟩
  · go_wp2
    go_ret
    exact ⟨rfl, below_two HB.out HB2.out⟩
  · go_wp2
    all_goals
      go_ret
      exact ⟨rfl, below_two HB.out HB2.out⟩

theorem walk (a0 : Int) (a1 : Option Addr) (len1 cap1 : Nat) (z1 : List Int) (w : World) (w0 : (Lit.int .u64 a0).wf = true) (w1 : IsRow .u8 w a1 len1 cap1 z1) :
    Calls Try.prog 3 #[.int .u64 a0, .slice a1 len1 cap1] w fun e w' => e = .returned (.bool true) ∧ Below w.heap.size w w' := by
  have b0 := bounds_u64 w0
  obtain ⟨n, rfl⟩ := Int.eq_ofNat_of_zero_le (show 0 ≤ a0 by omega)
  by_cases h1 : len1 ≤ 100
  · obtain ⟨hl, hh, hnone, hcap⟩ := holds_of_row w1 len1 (Nat.le_refl _)
    have := walk_mid n (by omega) a1 cap1 (z1.take len1) w (by omega) (by omega) hh
    rwa [hl] at this
  by_cases h2 : len1 ≤ 2147483647
  · obtain ⟨hl, hh, hnone, hcap⟩ := holds_of_row w1 100 (by omega)
    exact walk_long n (by omega) a1 cap1 (z1.take 100) w hl len1 (by omega) h2 hcap hh
  · go_enter Try.func3, Try.ntmps3
    go_wp2
    go_ret
    exact ⟨rfl, Below.refl _ _⟩

/-! ### THE ROW's STEP: WRITTEN OUT: LEAVE IT -/
set_option maxRecDepth 100000 in
theorem lifted (os : Os) (started : os.Started) (H : Type) (enc : TypeId × Value → H) :
    ReturnsInHanded {} Try.checked os 3 .any (Rows.fnSevensSpec.pre6 enc Try.prog Try.f3 Rows.fnSevensRow.domain false) (Rows.fnSevensSpec.post enc Try.prog Try.f3 false true false false) := by
  refine returnsInHanded_of_change (C := Try.checked) own started (by kernel_rfl) Try.func3
    (ChangeSpec.witness6 (enc := enc) (C := Try.checked) false ⟨#[], #[.int .u64 0, .slice none 0 0], []⟩ 8 (by kernel_rfl) (by kernel_rfl) (by kernel_rfl) (by kernel_rfl)) ?_
  intro W base args ds gs before hval0 hW hcnd _
  have hval : ∀ (j : Nat) t v, Try.f3.params[j]? = some t → args[j]? = some v → Value.okWide Try.prog W .any base t v := hval0
  have hW' := hW
  obtain ⟨p, q, hA0, hV, rfl, hfz, hnd⟩ := hW
  have hA : DataW.TrodAll enc Try.prog W 0 (fun _ => true) true Try.f3.params.toList args.toList ds p := hA0
  rw [Try.params3] at hA hval
  obtain ⟨v0, vs0, d0, ds0, p0, q0, hargs, rfl, rfl, h0, r0⟩ := trodAll_cons hA
  obtain ⟨v1, vs1, d1, ds1, p1, q1, rfl, rfl, rfl, h1, r1⟩ := trodAll_cons r0
  obtain ⟨rfl, rfl, rfl⟩ := trodAll_nil r1
  obtain rfl : args = #[v0, v1] := by cases args; simp_all
  obtain ⟨rfl, rfl⟩ := trodVars_none hV
  obtain ⟨a0, rfl, rfl, rfl, w0⟩ := open_int Try.underlying22 (hval 0 22 v0 rfl rfl) h0
  obtain ⟨a1, len1, cap1, rfl⟩ := okWide_slice Try.underlying23 (hval 1 23 v1 rfl rfl)
  have k1 := h1
  have lt1 : ∀ x ∈ p1, x.block < W.heap.size := by obtain ⟨m, hm⟩ := k1; exact DataW.trod_lt m _ _ _ hm
  obtain ⟨z1, w1⟩ : ∃ zs, IsRow .u8 W a1 len1 cap1 zs := by
    obtain ⟨fuel, hf⟩ := h1
    rcases open_ints Try.underlying23 Try.underlying5 (by kernel_rfl) hf with ⟨hcs, _⟩ | ⟨x, l, c, zs, hcs, _, hl, hm, hz, _, hcell, hwz⟩
    · simp [Value.cells] at hcs
      obtain ⟨rfl, rfl, rfl⟩ := hcs
      exact ⟨[], .inl ⟨rfl, rfl, rfl, rfl⟩⟩
    · simp [Value.cells] at hcs
      obtain ⟨rfl, rfl, rfl⟩ := hcs
      exact ⟨zs, .inr ⟨_, rfl, hl, hm, by simpa using hz, hcell, hwz⟩⟩
  clear hA0 hval0
  refine (walk a0 a1 len1 cap1 z1 W w0 w1).mono fun e W' ⟨he, bel⟩ => ?_
  subst he
  exact ⟨_, rfl, _, _, _, [], _, [], hW', trodAll_mk1 (shut_bool Try.underlying4 _), (trodAll_cons_mk (shut_int Try.underlying22 w0) (trodAll_cons_mk (Below.trod laidOut (by kernel_rfl) (of_decide_eq_true (by kernel_rfl)) k1 bel lt1) trodAll_mk0)), rfl, bel.frame _, fun h => by cases h⟩

theorem over : Rows.fnSevensRow.holds Try.pinned (OpenSpec.ofChange Rows.fnSevensSpec) :=
  OpenClaim.holds_of_wide 3 Try.f3 rfl rfl rfl rfl rfl rfl rfl ⟨rfl, rfl, rfl, rfl, rfl⟩ rfl rfl rfl rfl rfl (by kernel_rfl) Try.func3 (by kernel_rfl)
    (of_decide_eq_true (by kernel_rfl)) (by unfold Func.isWrapper; first | (rw [if_pos (by decide +kernel)]; kernel_rfl) | (rw [if_neg (by decide +kernel)]; exact ⟨rfl, rfl⟩))
    (fun os started H enc _ => lifted os started H enc)

/-- ████ THE STATEMENT ████ -/
theorem proved : Rows.FnSevensSaid := over
#print axioms proved
end Go.Proofs.Ytobponaenabpgaa.fnSevens
