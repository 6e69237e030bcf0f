/- The reference's Sorted at u64. -/
import Derived.Test.YtnembmpjnlipeaaTab
import Derived.Test.YtnembmpjnlipeaaProg
import Derived.WalkKit
import Derived.WalkSpells
import Derived.Lib.Hide
import Derived.BigQuiet
import Derived.Deep.QuietTactic
import Derived.Handy
import Derived.Deep.DeepCutAuto
import Derived.Deep.CutBlock
import Derived.WalkSmall
import Derived.WalkLawsBesides
import Derived.Outline
namespace Go.Proofs.Ytnembmpjnlipeaa.So
open Go.ChangeShapes Go.WideShapes Go.ChangeAt Go.RowKit Go.Maps
set_option linter.unusedVariables false

theorem law34 : Keyed Try.prog 34 := int_keyed Try.underlying34
theorem zero34 (w : World) : (zeroValue 3).run Try.prog w = .ok (.int .i64 0) w := by kernel_rfl
theorem keys34 : KeyOk (Lit.int .u64) := ⟨fun a b h => by injection h, fun a => trivial⟩

theorem ownsMap_drewN34 {wr : World} {b m : Nat} {D : DataW Unit} (h : wr.ownsMap Try.prog 34 (plainElem Try.prog 3) b m D) (k : Nat) : (wr.drewN k).ownsMap Try.prog 34 (plainElem Try.prog 3) b m D := h

set_option maxHeartbeats 2000000 in
set_option maxRecDepth 100000 in
theorem spec_u64 (w : World) (a b : Option Addr) (c d n : Nat) (l s : List Int) (hn : n ≤ 1000) (hl : l.length = n) (hs : s.length = n) (hp : l.Perm s) (hsort : ∀ i j (h : j < s.length), (h' : i ≤ j) → s[i]'(by omega) ≤ s[j]) (hw : ∀ x ∈ l, (Lit.int .u64 x).wf = true) (ha : HoldsE (Value.int .u64) w a l) (hb : HoldsE (Value.int .u64) w b s) :
    Calls Try.prog 8 #[.slice a n c, .slice b n d] w fun e w' => e = .returned (.bool true) ∧ Below w.heap.size w w' := by
  have HL := Lib.hid hl
  have HS := Lib.hid hs
  have HP := Lib.hid hp
  have HSO := Lib.hid hsort
  have HW := Lib.hid hw
  have HA := Lib.hid ha
  have HB := Lib.hid hb
  clear hl hs hp hsort hw ha hb
  have hmm := @run_makeMap Try.prog
  go_enter Try.func8, Try.ntmps8
  go_wp2
  go_loopw [17] (fun i wr => ∃ (k m : Nat) (D : DataW Unit), k ≤ n ∧ m ≤ 2 * k ∧ i = .int .i64 k ∧ Hid (Tab (Lit.int .u64) (Diff l s k) D) ∧ Hid (wr.ownsMap Try.prog 34 (plainElem Try.prog 3) w.heap.size m D) ∧ Hid (Below w.heap.size w wr)) (fun i _ => n - (intOf i).toNat)
  case atStart => exact ⟨0, 0, _, Nat.zero_le _, Nat.le_refl _, rfl, by rw [diff_zero]; exact Tab.empty _, World.ownsMap_made _ _ _ _, (Below.refl _ _).alloc (Nat.le_refl _) _⟩
  case round =>
    obtain ⟨k, m, D, hk, hm, rfl, HT, HO, HBW⟩ := hrel
    by_cases hlt : k < n
    · have hkl : k < l.length := by have := HL.out; omega
      have hks : k < s.length := by have := HS.out; omega
      obtain ⟨g, off, rfl, hc1⟩ := HA.out (by omega)
      obtain ⟨g', off', rfl, hc2⟩ := HB.out (by omega)
      obtain ⟨x, hx⟩ : ∃ x, l[k] = x := ⟨_, rfl⟩
      obtain ⟨y, hy⟩ : ∃ y, s[k] = y := ⟨_, rfl⟩
      have hcx : w.cell? ⟨g, off + k, none⟩ = some (.int .u64 x) := by rw [← hx]; exact hc1 k hkl
      have hcy : w.cell? ⟨g', off' + k, none⟩ = some (.int .u64 y) := by rw [← hy]; exact hc2 k hks
      have hkx : keyOf Try.prog 34 (.int .u64 x) = some (.int .u64 x) := keyOf_int_mk Try.underlying34 (HW.out _ (by rw [← hx]; exact List.getElem_mem hkl))
      have hky : keyOf Try.prog 34 (.int .u64 y) = some (.int .u64 y) := keyOf_int_mk Try.underlying34 (HW.out _ (by rw [← hy]; exact HP.out.mem_iff.2 (List.getElem_mem hks)))
      have HCX := Lib.hid fun w' (h : Below w.heap.size w w') => (h.cell (World.block_lt_of_cell? w _ hcx)).trans hcx
      have HCY := Lib.hid fun w' (h : Below w.heap.size w w') => (h.cell (World.block_lt_of_cell? w _ hcy)).trans hcy
      have q1 := HCX.out _ HBW.out
      have HHX := Lib.hid hx
      have HHY := Lib.hid hy
      have HC2 := Lib.hid hc2
      clear hx hy hc1 hc2 hcx hcy
      go_upto_region 8 with (first
        | (at_lookup; refine wpList_lookup_own_int _ rfl _ _ 46 rfl 34 3 .i64 law34 Try.underlying46 Try.underlying3 (zero34 _) w.heap.size m _ rfl HO.out _ _ rfl hkx ?_; intro c1 hat1 hwc1; have e1 := HT.out.at hat1; have b1 := diff_bd l s k x; rw [← e1] at b1; have HE1 := Lib.hid e1; have b1l := b1.1; have b1h := b1.2; clear hat1 hwc1 e1 b1)
        | (at_mapUpdate; refine wpList_mapUpdate_own _ rfl _ _ _ 46 rfl 34 3 law34 Try.underlying46 _ w.heap.size m _ rfl HO.out (by unfold maxLen; omega) _ _ _ rfl rfl hkx _ [] (plainElem_int Try.underlying3 (WalkArith.wf_i64 (by omega))) ?_; intro w1 hown1 hgrow1; have HO1 := Lib.hid hown1; have HB1 := Lib.hid (HBW.out.grown hgrow1 HBW.out.size (fun j hj => by cases hj; exact Nat.le_refl _)); have q2 := HCY.out _ HB1.out; clear hown1 hgrow1 q1; go_frame))
      clear HO HBW
      have hb1 := HB1.out.size
      go_upto_region 9 with (first
        | (at_lookup; refine wpList_lookup_own_int _ rfl _ _ 46 rfl 34 3 .i64 law34 Try.underlying46 Try.underlying3 (zero34 _) w.heap.size (m + 1) _ rfl HO1.out _ _ rfl hky ?_; intro c2 hat2 hwc2; have b2 := c2_bd keys34 HT.out HE1.out hat2; have HE2 := Lib.hid hat2; have b2l := b2.1; have b2h := b2.2; clear hat2 hwc2 b2)
        | (at_mapUpdate; refine wpList_mapUpdate_own _ rfl _ _ _ 46 rfl 34 3 law34 Try.underlying46 _ w.heap.size (m + 1) _ rfl HO1.out (by unfold maxLen; omega) _ _ _ rfl rfl hky _ [] (plainElem_int Try.underlying3 (WalkArith.wf_i64 (by omega))) ?_; intro w2 hown2 hgrow2; have HO2 := Lib.hid hown2; have HB2 := Lib.hid (HB1.out.grown hgrow2 HB1.out.size (fun j hj => by cases hj; exact Nat.le_refl _)); clear hown2 hgrow2 q2; go_frame))
      have HT2 := Lib.hid (Tab.round keys34 HT.out hkl hks HHX.out HHY.out HE1.out HE2.out)
      have q3 := HCY.out _ HB2.out
      clear HO1 HB1 HE1 HE2 b1l b1h b2l b2h hb1 HT HHX
      by_cases hk0 : (0 : Int) < (k : Int)
      · obtain ⟨z, hz⟩ : ∃ z, s[k - 1] = z := ⟨_, rfl⟩
        have hcz : w.cell? ⟨g', off' + (k - 1), none⟩ = some (.int .u64 z) := by rw [← hz]; exact HC2.out (k - 1) (by omega)
        have q4 := (HB2.out.cell (World.block_lt_of_cell? w _ hcz)).trans hcz
        have hle : z ≤ y := by have := HSO.out (k - 1) k hks (by omega); rw [HHY.out, hz] at this; exact this
        have hd : decide (y < z) = false := by simp; omega
        have hkn : 0 < k := by omega
        have hd1 : decide ((0 : Int) < (k : Int)) = true := decide_eq_true hk0
        have hd2 : decide (0 < k) = true := decide_eq_true hkn
        have hk1 : (0 : Int) ≤ (k : Int) - 1 := by omega
        have hk2 : (k : Int) - 1 < (n : Int) := by omega
        have hk3 : IntKind.i64.wrap ((k : Int) - 1) = (k : Int) - 1 := IntWalk.i64_in _ (by omega)
        have hk4 : ((k : Int) - 1).toNat = k - 1 := by omega
        clear hcz hz hle
        go_quiet (fail)
        go_wp2
        go_roundw
        case rel => exact ⟨k + 1, m + 1 + 1, _, by omega, by omega, by go_num, HT2.out, ownsMap_drewN34 HO2.out _, below_drewN HB2.out _⟩
        case measure => simp [intOf]; omega
      · have hkn : ¬ 0 < k := by omega
        have hd1 : decide ((0 : Int) < (k : Int)) = false := decide_eq_false hk0
        have hd2 : decide (0 < k) = false := decide_eq_false hkn
        go_quiet (fail)
        go_wp2
        go_roundw
        case rel => exact ⟨k + 1, m + 1 + 1, _, by omega, by omega, by go_num, HT2.out, ownsMap_drewN34 HO2.out _, below_drewN HB2.out _⟩
        case measure => simp [intOf]; omega
    · have hkn : k = n := by omega
      have HKL : Hid (k = l.length) := by have := HL.out; exact (by omega : k = l.length)
      obtain ⟨R, hR⟩ : ∃ R, wr.heap.size = R := ⟨_, rfl⟩
      have HR0 := Lib.hid hR
      have hRw := HBW.out.size
      clear hkn hR
      go_wp2_with (at_range; refine wpList_range_own _ rfl _ 46 rfl 34 3 law34 Try.underlying46 _ w.heap.size m D rfl HO.out ?_; rw [HR0.out]; intro w0 hrg0 hg0 hs0; have HRG := Lib.hid hrg0; have HB0 := Lib.hid (HBW.out.grown hg0 HBW.out.size (fun j hj => by cases hj)); clear hrg0 hg0 hs0)
      go_frame
      go_loopw [8] (fun _ wq => ∃ (left : Lit → Bool) (cnt : Nat), Hid (wq.ranges Try.prog 34 (plainElem Try.prog 3) w.heap.size R m D left cnt) ∧ Hid (Below w.heap.size w wq)) (fun _ wq => wq.rangeLeft w.heap.size R)
      case atStart => exact ⟨_, _, HRG, HB0⟩
      case round =>
        obtain ⟨left, cnt, HRQ, HBQ⟩ := hrel
        go_wp2_with (at_next; refine wpList_next_ranges_ii _ rfl _ rfl 34 3 .u64 .i64 law34 Try.underlying34 Try.underlying3 w.heap.size R m _ _ _ rfl HRQ.out ?_ ?_)
        · intro _ _
          go_wp2
          go_returns
          exact ⟨rfl, HBQ.out⟩
        · intro z c1 w1 cnt1 hwx hwc hlx hat hrg1 hlt1 hg1 hs1 hen
          have hc0 : c1 = 0 := HT.out.done HP.out HKL.out hat
          subst hc0
          have HRG1 := Lib.hid hrg1
          have HB1 := Lib.hid (HBQ.out.grown hg1 HBQ.out.size (fun j hj => by cases hj; have := HR0.out; omega))
          have HLT := Lib.hid hlt1
          clear hat hrg1 hg1 hs1 hlx hlt1
          go_wp2
          go_roundw
          case rel => exact ⟨_, cnt1, HRG1, HB1⟩
          case measure => rw [HRG1.out.left_eq, HRQ.out.left_eq]; exact HLT.out

end Go.Proofs.Ytnembmpjnlipeaa.So
