/- For every list of values and every bytes the law FnWritten returns true and its arguments read as before. No condition beyond the row's own.
   The frame of the row's proof was written after the one that the kit's proof-skeleton.mjs wrote for FnRead. -/
import Derived.Test.YtobponaenabpgaaWrWalk
import Derived.Test.YtobponaenabpgaaRows
import Derived.WalkKit
import Derived.ProofKit
import Derived.OpenShut
import Derived.ShutString
import Derived.ChangeOld
import Derived.Below
import Derived.Deep.Slices
namespace Go.Proofs.Ytobponaenabpgaa.fnWritten
open Go.ChangeShapes Go.WideShapes Go.ChangeAt Go.RowKit Sv Rd Go.Proofs.YtobponaenabpgaaW Go.Proofs.YtobponaenabpgaaW.PrintWords
open Go.ChangeMaps (open_string shut_string)
set_option linter.unusedVariables false

theorem own : ownKnob Try.prog.godebug = none := by kernel_rfl
theorem laidOut : laidOutB Try.prog = true := by kernel_rfl
theorem cells62 : Try.prog.cellsOf 62 = 3 := by kernel_rfl
theorem cells3 : Try.prog.cellsOf 3 = 1 := by kernel_rfl
theorem cells22 : Try.prog.cellsOf 22 = 1 := by kernel_rfl
theorem cells23 : Try.prog.cellsOf 23 = 1 := by kernel_rfl

section
variable {H : Type} {enc : TypeId × Value → H} {w : World} {base : Nat} {spare : Nat → Bool} {held : Bool}

theorem three_of {α : Type} {l : List α} (h : l.length = 3) : ∃ a b c, l = [a, b, c] := by
  rcases l with _ | ⟨a, _ | ⟨b, _ | ⟨c, _ | ⟨d, r⟩⟩⟩⟩ <;> simp at h
  exact ⟨a, b, c, rfl⟩

/-- A value that came in, out of its three cells. -/
theorem raw_in {fuel : Nat} {cs : List Value} {x : DataW H × List MemPlace} (h : DataW.trod enc Try.prog w base spare held fuel 62 cs = some x) : ∃ y : Raw, cs = rowR y ∧ RawOk w y := by
  obtain ⟨xs, n, _, _, hlen, hxl, hg⟩ := DataW.trod_struct Try.underlying62 h
  rw [cells62] at hlen
  obtain ⟨c0, c1, c2, rfl⟩ := three_of hlen
  obtain ⟨x0, x1, x2, rfl⟩ := three_of hxl
  clear hlen hxl
  have g0 : DataW.trod enc Try.prog w base spare held n 3 (([c0, c1, c2].drop 0).take (Try.prog.cellsOf 3)) = some x0 := hg 0 _ rfl
  rw [cells3] at g0
  replace g0 : DataW.trod enc Try.prog w base spare held n 3 [c0] = some x0 := g0
  have g1 : DataW.trod enc Try.prog w base spare held n 22 (([c0, c1, c2].drop 1).take (Try.prog.cellsOf 22)) = some x1 := hg 1 _ rfl
  rw [cells22] at g1
  replace g1 : DataW.trod enc Try.prog w base spare held n 22 [c1] = some x1 := g1
  have g2 : DataW.trod enc Try.prog w base spare held n 23 (([c0, c1, c2].drop 2).take (Try.prog.cellsOf 23)) = some x2 := hg 2 _ rfl
  rw [cells23] at g2
  replace g2 : DataW.trod enc Try.prog w base spare held n 23 [c2] = some x2 := g2
  clear hg
  obtain ⟨k, e0, _, wk⟩ := DataW.trod_int Try.underlying3 g0
  obtain ⟨m, e1, _, wm⟩ := DataW.trod_int Try.underlying22 g1
  have bk := bounds_i64 wk
  have bm := bounds_u64 wm
  simp only [List.cons.injEq, and_true] at e0 e1
  subst e0 e1
  rcases open_ints Try.underlying23 Try.underlying5 (by kernel_rfl) g2 with ⟨hcs, _⟩ | ⟨a, l, c, zs, hcs, _, hl, hm, hz, _, hcell, hwz⟩
  · simp only [List.cons.injEq, and_true] at hcs
    subst hcs
    exact ⟨⟨k, m, [], none, 0⟩, rfl, { k0 := bk.1, k1 := bk.2, n0 := bm.1, n1 := bm.2, le := Nat.le_refl _, nil := fun _ => rfl, holds := ⟨fun x hx => by simp at hx, by simp, fun h => by simp at h⟩ }⟩
  · simp only [List.cons.injEq, and_true] at hcs
    subst hcs
    have hzl : l ≤ zs.length := by rw [hz]; split <;> omega
    have hlen : (zs.take l).length = l := by rw [List.length_take]; omega
    refine ⟨⟨k, m, zs.take l, some a, c⟩, by simp only [rowR, hlen], { k0 := bk.1, k1 := bk.2, n0 := bm.1, n1 := bm.2, le := by simp only; omega, nil := fun e => by simp at e, holds := ⟨?_, ?_, ?_⟩ }⟩
    · intro x hx
      have := bounds_u8 (hwz x (List.mem_of_mem_take hx))
      omega
    · simp only [hlen]; simp only [maxLen] at hm; omega
    · intro _
      refine ⟨a, rfl, fun j hj => ?_⟩
      simp only [hlen] at hj
      rw [hcell j (by omega)]
      simp [at8, List.getD_eq_getElem?_getD, hj]

/-- The values that came in. -/
theorem rows_in {fuel : Nat} {a : Option Addr} {len cap : Nat} {x : DataW H × List MemPlace} (h : DataW.trod enc Try.prog w base spare held fuel 54 [.slice a len cap] = some x) :
    ∃ Q : List Raw, len = Q.length ∧ InRow w a Q ∧ (∀ y ∈ Q, RawOk w y) ∧ len ≤ cap ∧ (a = none → cap = 0) := by
  rcases Go.Deep.open_slice Try.underlying54 h with ⟨hcs, _⟩ | ⟨ad, l, c, m, n, D, Pl, hcs, _, hl, hm, hmm, _, hi⟩
  · simp only [List.cons.injEq, and_true, Value.slice.injEq] at hcs
    obtain ⟨rfl, rfl, rfl⟩ := hcs
    exact ⟨[], rfl, ⟨by simp, fun y hy => by simp at hy, fun h0 => by simp at h0⟩, fun y hy => by simp at hy, Nat.le_refl _, fun _ => rfl⟩
  · simp only [List.cons.injEq, and_true, Value.slice.injEq] at hcs
    obtain ⟨rfl, rfl, rfl⟩ := hcs
    have hml : len ≤ m := by rw [hmm]; split <;> omega
    have hex : ∀ i : Nat, ∃ y : Raw, i < len → RawOk w y ∧ ∀ j, j < 3 → w.cell? (ad.add (i * 3 + j)) = (rowR y)[j]? := by
      intro i
      rcases Nat.lt_or_ge i len with hlt | hge
      · obtain ⟨cs', hc, ht⟩ := hi i (by omega)
        obtain ⟨y, rfl, hy⟩ := raw_in ht
        rw [cells62] at hc
        obtain ⟨_, _, hat⟩ := World.cells?_some hc
        refine ⟨y, fun _ => ⟨hy, fun j hj => ?_⟩⟩
        rw [← Go.Deep.add_add, hat j hj]
      · exact ⟨⟨0, 0, [], none, 0⟩, fun h => absurd h (by omega)⟩
    obtain ⟨f, hf⟩ := Classical.axiomOfChoice hex
    refine ⟨(List.range len).map f, by simp, ⟨by simp only [List.length_map, List.length_range]; simp only [maxLen] at hm; omega, ?_, fun _ => ⟨ad, rfl, ?_⟩⟩, ?_, hl, fun e => by simp at e⟩
    · intro y hy
      obtain ⟨i, hi, rfl⟩ := List.mem_map.1 hy
      exact (hf i (List.mem_range.1 hi)).1.holds
    · intro j u hu
      have hj : j < (((List.range len).map f).flatMap rowR).length := (List.getElem?_eq_some_iff.1 hu).1
      rw [rowR_len] at hj
      simp only [List.length_map, List.length_range] at hj
      have hq : j / 3 < len := by omega
      have he : j = j / 3 * 3 + j % 3 := by omega
      rw [he, rowR_get _ (j / 3) (by simpa using hq) (j % 3) (by omega)] at hu
      have := (hf (j / 3) hq).2 (j % 3) (by omega)
      rw [← he] at this
      rw [this, ← hu]
      simp
    · intro y hy
      obtain ⟨i, hi, rfl⟩ := List.mem_map.1 hy
      exact (hf i (List.mem_range.1 hi)).1
end

/-- WHAT THE WALK IS TOLD OF A SLICE OF INTEGERS THAT CAME IN: it is nil; or it leads to a row of 'cap' cells, the numbers 'zs' (the first 'len' are its elements, the rest its spare room), each fitting its kind. -/
def IsRow (k : IntKind) (w : World) (a : Option Addr) (len cap : Nat) (zs : List Int) : Prop :=
  (a = none ∧ len = 0 ∧ cap = 0 ∧ zs = []) ∨
  ∃ x, a = some x ∧ len ≤ cap ∧ cap ≤ maxLen ∧ zs.length = cap ∧ (∀ i, i < zs.length → w.cell? (x.add i) = some (.int k (zs.getD i 0))) ∧ ∀ n ∈ zs, (Lit.int k n).wf = true

theorem holds_of_row {w : World} {a : Option Addr} {len cap : Nat} {z : List Int} (h : IsRow .u8 w a len cap z) (n : Nat) (hn : n ≤ len) : (z.take n).length = n ∧ Holds8 w a (z.take n) ∧ (a = none → cap = 0) ∧ len ≤ cap := by
  rcases h with ⟨rfl, rfl, rfl, rfl⟩ | ⟨x, rfl, hl, hm, hz, hc, hw⟩
  · obtain rfl : n = 0 := by omega
    exact ⟨rfl, ⟨fun x hx => by simp at hx, by simp, fun h => by simp at h⟩, fun _ => rfl, Nat.le_refl _⟩
  · have hlen : (z.take n).length = n := by rw [List.length_take]; omega
    refine ⟨hlen, ⟨?_, ?_, ?_⟩, fun h => by simp at h, hl⟩
    · intro x hx
      have := bounds_u8 (hw x (List.mem_of_mem_take hx))
      omega
    · rw [hlen]; simp only [maxLen] at hm; omega
    · intro _
      refine ⟨x, rfl, fun j hj => ?_⟩
      rw [hlen] at hj
      rw [hc j (by omega)]
      simp [at8, List.getD_eq_getElem?_getD, hj]

theorem walk (a0 : Option Addr) (cap0 : Nat) (Q : List Raw) (a1 : Option Addr) (len1 cap1 : Nat) (z1 : List Int) (w : World) (c0 : Q.length ≤ cap0) (n0 : a0 = none → cap0 = 0) (HI : InRow w a0 Q) (HO : ∀ y ∈ Q, RawOk w y) (w1 : IsRow .u8 w a1 len1 cap1 z1) :
    Calls Try.prog 8 #[.slice a0 Q.length cap0, .slice a1 len1 cap1] w fun e w' => e = .returned (.bool true) ∧ Below w.heap.size w w' := by
  by_cases h1 : len1 ≤ 2147483647
  · obtain ⟨l1, hh1, n1, c1⟩ := holds_of_row w1 (min len1 100) (by omega)
    exact written_walk w a0 cap0 Q a1 len1 cap1 (z1.take (min len1 100)) h1 l1 c0 c1 n0 n1 HI HO hh1
  · have HF := Lib.hid (fits1 w a0 cap0 Q HI)
    clear w1 HI HO n0 c0
    go_enter Try.func8, Try.ntmps8
    go_wp2_with fail
    refine HF.out.mono ?_
    rintro e w1 ⟨b, rfl, hb⟩
    have HB1 := Lib.hid hb
    clear hb HF
    cases b
    all_goals
      go_wp2_with fail
      go_returns
      exact ⟨rfl, HB1.out⟩

/-! ### THE ROW's STEP: WRITTEN OUT: LEAVE IT -/
set_option maxRecDepth 100000 in
theorem lifted (os : Os) (started : os.Started) (H : Type) (enc : TypeId × Value → H) :
    ReturnsInHanded {} Try.checked os 8 .any (Rows.fnWrittenSpec.pre6 enc Try.prog Try.f8 Rows.fnWrittenRow.domain false) (Rows.fnWrittenSpec.post enc Try.prog Try.f8 false true false false) := by
  refine returnsInHanded_of_change (C := Try.checked) own started (by kernel_rfl) Try.func8
    (ChangeSpec.witness6 (enc := enc) (C := Try.checked) false ⟨#[], #[.slice none 0 0, .slice none 0 0], []⟩ 8 (by kernel_rfl) (by kernel_rfl) (by kernel_rfl) (by kernel_rfl)) ?_
  intro W base args ds gs before hval0 hW hcnd _
  have hval : ∀ (j : Nat) t v, Try.f8.params[j]? = some t → args[j]? = some v → Value.okWide Try.prog W .any base t v := hval0
  have hW' := hW
  obtain ⟨p, q, hA0, hV, rfl, hfz, hnd⟩ := hW
  have hA : DataW.TrodAll enc Try.prog W 0 (fun _ => true) true Try.f8.params.toList args.toList ds p := hA0
  rw [Try.params8] at hA hval
  obtain ⟨v0, vs0, d0, ds0, p0, q0, hargs, rfl, rfl, h0, r0⟩ := trodAll_cons hA
  obtain ⟨v1, vs1, d1, ds1, p1, q1, rfl, rfl, rfl, h1, r1⟩ := trodAll_cons r0
  obtain ⟨rfl, rfl, rfl⟩ := trodAll_nil r1
  obtain rfl : args = #[v0, v1] := by cases args; simp_all
  obtain ⟨rfl, rfl⟩ := trodVars_none hV
  obtain ⟨a0, len0, cap0, rfl⟩ := okWide_slice Try.underlying54 (hval 0 54 v0 rfl rfl)
  have k0 := h0
  have lt0 : ∀ x ∈ p0, x.block < W.heap.size := by obtain ⟨m, hm⟩ := k0; exact DataW.trod_lt m _ _ _ hm
  obtain ⟨Q, rfl, hI, hO, hc0, hn0⟩ : ∃ Q : List Raw, len0 = Q.length ∧ InRow W a0 Q ∧ (∀ y ∈ Q, RawOk W y) ∧ len0 ≤ cap0 ∧ (a0 = none → cap0 = 0) := by
    obtain ⟨fuel, hf⟩ := h0
    exact rows_in hf
  obtain ⟨a1, len1, cap1, rfl⟩ := okWide_slice Try.underlying23 (hval 1 23 v1 rfl rfl)
  have k1 := h1
  have lt1 : ∀ x ∈ p1, x.block < W.heap.size := by obtain ⟨m, hm⟩ := k1; exact DataW.trod_lt m _ _ _ hm
  obtain ⟨z1, w1⟩ : ∃ zs, IsRow .u8 W a1 len1 cap1 zs := by
    obtain ⟨fuel, hf⟩ := h1
    rcases open_ints Try.underlying23 Try.underlying5 (by kernel_rfl) hf with ⟨hcs, _⟩ | ⟨x, l, c, zs, hcs, _, hl, hm, hz, _, hcell, hwz⟩
    · simp [Value.cells] at hcs
      obtain ⟨rfl, rfl, rfl⟩ := hcs
      exact ⟨[], .inl ⟨rfl, rfl, rfl, rfl⟩⟩
    · simp [Value.cells] at hcs
      obtain ⟨rfl, rfl, rfl⟩ := hcs
      exact ⟨zs, .inr ⟨_, rfl, hl, hm, by simpa using hz, hcell, hwz⟩⟩
  clear hA0 hval0
  refine (walk a0 cap0 Q a1 len1 cap1 z1 W hc0 hn0 hI hO w1).mono fun e W' ⟨he, bel⟩ => ?_
  subst he
  exact ⟨_, rfl, _, _, _, [], _, [], hW', trodAll_mk1 (shut_bool Try.underlying4 _), (trodAll_cons_mk (Below.trod laidOut (by kernel_rfl) (of_decide_eq_true (by kernel_rfl)) k0 bel lt0) (trodAll_cons_mk (Below.trod laidOut (by kernel_rfl) (of_decide_eq_true (by kernel_rfl)) k1 bel lt1) trodAll_mk0)), rfl, bel.frame _, fun h => by cases h⟩

theorem over : Rows.fnWrittenRow.holds Try.pinned (OpenSpec.ofChange Rows.fnWrittenSpec) :=
  OpenClaim.holds_of_wide 8 Try.f8 rfl rfl rfl rfl rfl rfl rfl ⟨rfl, rfl, rfl, rfl, rfl⟩ rfl rfl rfl rfl rfl (by kernel_rfl) Try.func8 (by kernel_rfl)
    (of_decide_eq_true (by kernel_rfl)) (by unfold Func.isWrapper; first | (rw [if_pos (by decide +kernel)]; kernel_rfl) | (rw [if_neg (by decide +kernel)]; exact ⟨rfl, rfl⟩))
    (fun os started H enc _ => lifted os started H enc)

/-- ████ THE STATEMENT ████ -/
theorem proved : Rows.FnWrittenSaid := over
#print axioms proved
end Go.Proofs.Ytobponaenabpgaa.fnWritten
