/- The walk of the law FnSkip. -/
import Derived.Test.YtobponaenabpgaaSkField
import Derived.Test.YtobponaenabpgaaSkLow
namespace Go.Proofs.Ytobponaenabpgaa.Rd
open Go.ChangeShapes Go.WideShapes Go.ChangeAt Go.RowKit Sv Go.Proofs.YtobponaenabpgaaW Go.Proofs.YtobponaenabpgaaW.PrintWords
set_option linter.unusedVariables false
set_option linter.unusedSimpArgs false

theorem row_data {w : World} {base : Nat} {A : Option Addr} {c : Nat} {l : List Int} {n : Nat} (h : w.ownsRow base 5 1 (.slice A n c) n (nums .u8 l)) (h0 : 0 < n) (hb : Bytes8 l) :
    ∃ g, A = some ⟨g, 0, none⟩ ∧ n ≤ c ∧ ∀ W, Below w.heap.size w W → Data W g 0 l := by
  obtain ⟨g, rfl, _, hc⟩ := own_form h h0
  refine ⟨g, rfl, hc, fun W hW => ⟨hb, fun j hj => ?_⟩⟩
  obtain ⟨A, c', e, hr⟩ := own_reads h
  simp only [Value.slice.injEq] at e
  obtain ⟨rfl, _, rfl⟩ := e
  obtain ⟨ad, e, hcell⟩ := hr.2.2 h0
  cases e
  have := hcell j (by rw [← hr.1]; exact hj)
  rw [Go.WideShapes.add_plain] at this
  exact pw_cell_below hW this

/-- What follows a region under one name, while the region is walked. -/
theorem region_hid {P : Program} {cd : Code} {Q : Exit → Act → World → Prop} {a : Act} {w : World} (hp : ∀ c (a : Act) d v w, Q (.panic c) (a.put (some d) v) w → Q (.panic c) a w)
    (h : ∀ Q' : Exit → Act → World → Prop, Hid (Q' = Q) → (∀ c (a : Act) d v w, Q' (.panic c) (a.put (some d) v) w → Q' (.panic c) a w) → cd.wp P Q' a w) : cd.wp P Q a w := h Q rfl hp

set_option maxHeartbeats 4000000 in
set_option maxRecDepth 100000 in
theorem skip_walk (w : World) (h : Nat) (t : Tr) (hO : OkT (· < w.heap.size) w h t) (ad : Addr) (len1 cap1 : Nat) (R : List Int) (h1 : len1 ≤ 2147483647) (hR : R.length = min len1 100) (c1 : len1 ≤ cap1) (HR : Holds8 w (some ad) R) :
    Calls Try.prog 5 #[.agg #[.int .i64 t.num, .int .i64 t.kind, .int .u64 t.n, .slice t.ba t.bytes.length t.bc, .slice t.ia t.ins.length t.ic], .slice (some ad) len1 cap1] w fun e w' => e = .returned (.bool true) ∧ Below w.heap.size w w' := by
  have HF := Lib.hid fun W hW => field_tree h (W0 := w.heap.size) W (Below.size hW) (hO.below hW) 0 (by omega) (by omega)
  have HRR := Lib.hid HR
  have HLR := Lib.hid hR
  have b100 : R.length ≤ 100 := by omega
  clear hO HR hR
  go_enter Try.func5, Try.ntmps5
  go_wp2_with fail
  refine (fits3 _ _ _ _ _ _ _ _ _ _).mono ?_
  rintro e w1 ⟨b, rfl, hb⟩
  obtain ⟨y0, y1, y2, y3, y4⟩ := fbox hb
  have HB1 := Lib.hid ((wa_below w _).trans (hb.mono (wa_below w _).size))
  clear hb
  cases b with
  | false =>
    go_wp2_with fail
    go_returns
    exact ⟨rfl, HB1.out⟩
  | true =>
    go_wp2_with fail
    refine (HF.out _ HB1.out).mono ?_
    rintro e w2 ⟨t', rfl, hok, hfit, hb2⟩
    have HB2' := Lib.hid (HB1.out.trans (hb2.mono HB1.out.size))
    have HOK := Lib.hid hok
    have HFT : Hid (FitT 7 t') := hfit (by omega)
    clear hok hfit hb2 y0 y1 y2 y3 y4 HF HB1
    go_wp2_with fail
    refine (written_tree 7 (Nat.le_refl _) HOK.out HFT.out w2 (Below.refl _ _)).mono ?_
    rintro e w3 ⟨v, rfl, ho, hb⟩
    have HLN := encT_len 7 HOK.out HFT.out
    have hbd := bdT_7 7 (Nat.le_refl _)
    have hby := enc_bytes 7 HOK.out
    have HSK0 := Lib.hid fun W g c (hn : (encT 7 t' ++ R).length ≤ c) (hD : Data W g 0 (encT 7 t' ++ R)) => skip_tree 7 HOK.out HFT.out W g 0 c (encT 7 t' ++ R).length (encT 7 t' ++ R) R rfl (by rw [List.length_append]; omega) hn hD rfl
    have hpos : 0 < (encT 7 t').length := enc_pos 7 t'
    have HB2 := Lib.hid (HB2'.out.trans (hb.mono HB2'.out.size))
    obtain ⟨A, c, rfl⟩ := own_slice ho
    obtain ⟨g, rfl, hnc, hD⟩ := row_data ho hpos hby
    have hcl : Hid (∀ W, Below w3.heap.size w3 W → Calls Try.prog 19 #[.slice (some ⟨g, 0, none⟩) (encT 7 t').length c] W (ClonePost (encT 7 t') W)) := fun W hW => clone_big _ _ _ (by omega) W ⟨hby, by omega, fun _ => ⟨_, rfl, fun j hj => by rw [Go.WideShapes.add_plain]; exact (hD W hW).2 j hj⟩⟩
    have HBY : Hid (Bytes8 (encT 7 t' ++ R)) := bytesT_append hby HRR.out.1
    have HLP := Lib.hid hpos
    have hll : (encT 7 t').length ≤ 30000000 := by omega
    clear ho hb hD hby HOK HFT HLN hbd HB2' hpos
    generalize encT 7 t' = l at HSK0 hcl HBY HLP hll hnc ⊢
    have HSK := by have h := HSK0.out; rw [List.length_append] at h; exact Lib.hid h
    have HCL := hcl
    clear HSK0 hcl
    go_wp2_with fail
    by_cases g0 : len1 ≤ 100
    · have HE : Hid (R.length = len1) := by have := HLR.out; exact (by omega : R.length = len1)
      have i0 : ((100 : Int) < (len1 : Int)) = False := by simp; omega
      refine region_hid (fun _ _ _ _ _ h => h) fun Q' hQ' hqp => ?_
      refine region_till 7 (fun _ => True) (by kernel_rfl) ?_
      refine till_take_free (i := 0) (v := ?tvax0) rfl (by kernel_rfl) (by kernel_rfl) (by kernel_rfl) (by kernel_rfl) (fun c a1 w1 h1 => hqp c _ _ _ w1 h1) trivial (Or.inl ⟨by rfl, ?tyax0⟩) ?trax0
      case tyax0 => intro W hW; go_simp; try with_reducible rfl
      try simp only [Act.put, List.setIfInBounds_toArray, List.set_cons_zero, List.set_cons_succ]
      refine till_take_free (i := 2) (v := ?tvax2) rfl (by kernel_rfl) (by kernel_rfl) (by kernel_rfl) (by kernel_rfl) (fun c a1 w1 h1 => hqp c _ _ _ w1 h1) trivial (Or.inl ⟨by rfl, ?tyax2⟩) ?trax2
      case tyax2 => intro W hW; go_simp; try with_reducible rfl
      try simp only [Act.put, List.setIfInBounds_toArray, List.set_cons_zero, List.set_cons_succ]
      refine till_take_free (i := 3) (v := ?tvax3) rfl (by kernel_rfl) (by kernel_rfl) (by kernel_rfl) (by kernel_rfl) (fun c a1 w1 h1 => hqp c _ _ _ w1 h1) trivial (Or.inl ⟨by rfl, ?tyax3⟩) ?trax3
      case tyax3 => intro W hW; go_simp; try with_reducible rfl
      try simp only [Act.put, List.setIfInBounds_toArray, List.set_cons_zero, List.set_cons_succ]
      refine till_take_free (i := 4) (v := ?tvax4) rfl (by kernel_rfl) (by kernel_rfl) (by kernel_rfl) (by kernel_rfl) (fun c a1 w1 h1 => hqp c _ _ _ w1 h1) trivial (Or.inl ⟨by rfl, ?tyax4⟩) ?trax4
      case tyax4 => intro W hW; go_simp; try with_reducible rfl
      try simp only [Act.put, List.setIfInBounds_toArray, List.set_cons_zero, List.set_cons_succ]
      refine till_take_free (i := 5) (v := ?tvax5) rfl (by kernel_rfl) (by kernel_rfl) (by kernel_rfl) (by kernel_rfl) (fun c a1 w1 h1 => hqp c _ _ _ w1 h1) trivial (Or.inl ⟨by rfl, ?tyax5⟩) ?trax5
      case tyax5 => intro W hW; go_simp; try with_reducible rfl
      try simp only [Act.put, List.setIfInBounds_toArray, List.set_cons_zero, List.set_cons_succ]
      refine till_take_free (i := 6) (v := ?tvax6) rfl (by kernel_rfl) (by kernel_rfl) (by kernel_rfl) (by kernel_rfl) (fun c a1 w1 h1 => hqp c _ _ _ w1 h1) trivial (Or.inl ⟨by rfl, ?tyax6⟩) ?trax6
      case tyax6 => intro W hW; go_simp; try with_reducible rfl
      try simp only [Act.put, List.setIfInBounds_toArray, List.set_cons_zero, List.set_cons_succ]
      refine till_step (i := 1) (by kernel_rfl) rfl (fun K hK => ?_)
      have HK := Lib.hid hK
      clear hK
      go_simp
      refine (HCL.out w3.drew (below_drew (Below.refl _ _))).mono ?_
      rintro e w4 ⟨v4, rfl, ho4, hb4⟩
      obtain ⟨A4, c4, rfl⟩ := own_slice ho4
      have HO4 := Lib.hid ho4
      have HB4 := Lib.hid (HB2.out.trans ((Below.trans (below_drew (Below.refl _ _)) hb4).mono HB2.out.size))
      have HZ4 : Hid (w3.heap.size ≤ w4.heap.size) := hb4.size
      clear ho4 hb4 HCL
      have HR4 : Hid (ReadsInt w4 .u8 (some ad) len1 R) := by have h := reads_holds (holds_below HRR.out HB4.out); rw [HE.out] at h; exact h
      go_simp
      refine HK.out _ _ ⟨trivial, ?_⟩
      clear HK
      try simp only [Act.put, List.setIfInBounds_toArray, List.set_cons_zero, List.set_cons_succ]
      refine till_step (i := 7) (by kernel_rfl) rfl (fun K2 hK2 => ?_)
      have HK2 := Lib.hid hK2
      clear hK2
      refine step_append_big (w0 := w4) w3.heap.size rfl (.tmp 21) (.tmp 26) (by rfl) (.slice A4 l.length c4) l R ad len1 cap1 (by rfl) (by rfl) HO4.out HR4.out (Below.refl _ _) HZ4.out (by omega) Try.underlying23 info5 ?_
      intro v5 w5 HO5 HB5 _
      obtain ⟨A5, c5, rfl⟩ := own_slice HO5
      have H5 := Lib.hid HO5
      have HB5' := Lib.hid HB5
      clear HO5 HB5
      obtain ⟨g5, rfl, hn5, hd5⟩ := row_data (l := l ++ R) H5.out (by have := HLP.out; have h : 0 < l.length := this; rw [List.length_append]; omega) HBY.out
      have HBX := Lib.hid (HB4.out.trans (HB5'.out.mono HB2.out.size))
      have HD5 := Lib.hid hd5
      clear hd5
      rw [List.length_append] at hn5
      refine HK2.out _ _ ⟨trivial, ?_⟩
      clear HK2
      try simp only [Act.put, List.setIfInBounds_toArray, List.set_cons_zero, List.set_cons_succ]
      refine till_step (i := 8) (by kernel_rfl) rfl (fun K3 hK3 => ?_)
      have HK3 := Lib.hid hK3
      clear hK3
      go_simp
      refine (skip_impl w5 g5 0 c5 (l.length + R.length) l.length fun W hW => HSK.out W g5 c5 hn5 (HD5.out W hW)).mono ?_
      rintro e w6 ⟨rfl, hb6⟩
      have HB6 := Lib.hid (HBX.out.trans (hb6.mono HBX.out.size))
      clear hb6
      go_simp
      refine HK3.out _ _ ⟨trivial, ?_⟩
      clear HK3
      try simp only [Act.put, List.setIfInBounds_toArray, List.set_cons_zero, List.set_cons_succ]
      refine till_take_free (i := 9) (v := ?tvax9) rfl (by kernel_rfl) (by kernel_rfl) (by kernel_rfl) (by kernel_rfl) (fun c a1 w1 h1 => hqp c _ _ _ w1 h1) trivial (Or.inl ⟨by rfl, ?tyax9⟩) ?trax9
      case tyax9 => intro W hW; go_simp; try with_reducible rfl
      try simp only [Act.put, List.setIfInBounds_toArray, List.set_cons_zero, List.set_cons_succ]
      refine till_take_free (i := 10) (v := ?tvax10) rfl (by kernel_rfl) (by kernel_rfl) (by kernel_rfl) (by kernel_rfl) (fun c a1 w1 h1 => hqp c _ _ _ w1 h1) trivial (Or.inl ⟨by rfl, ?tyax10⟩) ?trax10
      case tyax10 => intro W hW; go_simp; try with_reducible rfl
      try simp only [Act.put, List.setIfInBounds_toArray, List.set_cons_zero, List.set_cons_succ]
      refine till_take_free (i := 11) (v := ?tvax11) rfl (by kernel_rfl) (by kernel_rfl) (by kernel_rfl) (by kernel_rfl) (fun c a1 w1 h1 => hqp c _ _ _ w1 h1) trivial (Or.inl ⟨by rfl, ?tyax11⟩) ?trax11
      case tyax11 => intro W hW; go_simp; try with_reducible rfl
      try simp only [Act.put, List.setIfInBounds_toArray, List.set_cons_zero, List.set_cons_succ]
      refine till_take_free (i := 12) (v := ?tvax12) rfl (by kernel_rfl) (by kernel_rfl) (by kernel_rfl) (by kernel_rfl) (fun c a1 w1 h1 => hqp c _ _ _ w1 h1) trivial (Or.inl ⟨by rfl, ?tyax12⟩) ?trax12
      case tyax12 => intro W hW; go_simp; try with_reducible rfl
      try simp only [Act.put, List.setIfInBounds_toArray, List.set_cons_zero, List.set_cons_succ]
      refine till_take_free (i := 13) (v := ?tvax13) rfl (by kernel_rfl) (by kernel_rfl) (by kernel_rfl) (by kernel_rfl) (fun c a1 w1 h1 => hqp c _ _ _ w1 h1) trivial (Or.inl ⟨by rfl, ?tyax13⟩) ?trax13
      case tyax13 => intro W hW; go_simp; try with_reducible rfl
      try simp only [Act.put, List.setIfInBounds_toArray, List.set_cons_zero, List.set_cons_succ]
      refine ⟨by kernel_rfl, ?_⟩
      have hq := hQ'.out
      clear hQ' hqp
      subst hq
      go_wp2_with fail
      go_returns
      exact ⟨rfl, HB6.out⟩
    · have HE : Hid (R.length = 100) := by have := HLR.out; exact (by omega : R.length = 100)
      have i0 : ((100 : Int) < (len1 : Int)) = True := by simp; omega
      have i2 : 100 ≤ cap1 := by omega
      have i3 : (100 : Int) ≤ (cap1 : Int) := by omega
      refine region_hid (fun _ _ _ _ _ h => h) fun Q' hQ' hqp => ?_
      refine region_till 7 (fun _ => True) (by kernel_rfl) ?_
      refine till_take_free (i := 0) (v := ?tvbx0) rfl (by kernel_rfl) (by kernel_rfl) (by kernel_rfl) (by kernel_rfl) (fun c a1 w1 h1 => hqp c _ _ _ w1 h1) trivial (Or.inl ⟨by rfl, ?tybx0⟩) ?trbx0
      case tybx0 => intro W hW; go_simp; try with_reducible rfl
      try simp only [Act.put, List.setIfInBounds_toArray, List.set_cons_zero, List.set_cons_succ]
      refine till_take_free (i := 2) (v := ?tvbx2) rfl (by kernel_rfl) (by kernel_rfl) (by kernel_rfl) (by kernel_rfl) (fun c a1 w1 h1 => hqp c _ _ _ w1 h1) trivial (Or.inl ⟨by rfl, ?tybx2⟩) ?trbx2
      case tybx2 => intro W hW; go_simp; try with_reducible rfl
      try simp only [Act.put, List.setIfInBounds_toArray, List.set_cons_zero, List.set_cons_succ]
      refine till_take_free (i := 3) (v := ?tvbx3) rfl (by kernel_rfl) (by kernel_rfl) (by kernel_rfl) (by kernel_rfl) (fun c a1 w1 h1 => hqp c _ _ _ w1 h1) trivial (Or.inl ⟨by rfl, ?tybx3⟩) ?trbx3
      case tybx3 => intro W hW; go_simp; try with_reducible rfl
      try simp only [Act.put, List.setIfInBounds_toArray, List.set_cons_zero, List.set_cons_succ]
      refine till_take_free (i := 4) (v := ?tvbx4) rfl (by kernel_rfl) (by kernel_rfl) (by kernel_rfl) (by kernel_rfl) (fun c a1 w1 h1 => hqp c _ _ _ w1 h1) trivial (Or.inl ⟨by rfl, ?tybx4⟩) ?trbx4
      case tybx4 => intro W hW; go_simp; try with_reducible rfl
      try simp only [Act.put, List.setIfInBounds_toArray, List.set_cons_zero, List.set_cons_succ]
      refine till_take_free (i := 5) (v := ?tvbx5) rfl (by kernel_rfl) (by kernel_rfl) (by kernel_rfl) (by kernel_rfl) (fun c a1 w1 h1 => hqp c _ _ _ w1 h1) trivial (Or.inl ⟨by rfl, ?tybx5⟩) ?trbx5
      case tybx5 => intro W hW; go_simp; try with_reducible rfl
      try simp only [Act.put, List.setIfInBounds_toArray, List.set_cons_zero, List.set_cons_succ]
      refine till_take_free (i := 6) (v := ?tvbx6) rfl (by kernel_rfl) (by kernel_rfl) (by kernel_rfl) (by kernel_rfl) (fun c a1 w1 h1 => hqp c _ _ _ w1 h1) trivial (Or.inl ⟨by rfl, ?tybx6⟩) ?trbx6
      case tybx6 => intro W hW; go_simp; try with_reducible rfl
      try simp only [Act.put, List.setIfInBounds_toArray, List.set_cons_zero, List.set_cons_succ]
      refine till_step (i := 1) (by kernel_rfl) rfl (fun K hK => ?_)
      have HK := Lib.hid hK
      clear hK
      go_simp
      refine (HCL.out w3.drew (below_drew (Below.refl _ _))).mono ?_
      rintro e w4 ⟨v4, rfl, ho4, hb4⟩
      obtain ⟨A4, c4, rfl⟩ := own_slice ho4
      have HO4 := Lib.hid ho4
      have HB4 := Lib.hid (HB2.out.trans ((Below.trans (below_drew (Below.refl _ _)) hb4).mono HB2.out.size))
      have HZ4 : Hid (w3.heap.size ≤ w4.heap.size) := hb4.size
      clear ho4 hb4 HCL
      have HR4 : Hid (ReadsInt w4 .u8 (some ad) 100 R) := by have h := reads_holds (holds_below HRR.out HB4.out); rw [HE.out] at h; exact h
      go_simp
      refine HK.out _ _ ⟨trivial, ?_⟩
      clear HK
      try simp only [Act.put, List.setIfInBounds_toArray, List.set_cons_zero, List.set_cons_succ]
      refine till_step (i := 7) (by kernel_rfl) rfl (fun K2 hK2 => ?_)
      have HK2 := Lib.hid hK2
      clear hK2
      refine step_append_big (w0 := w4) w3.heap.size rfl (.tmp 21) (.tmp 26) (by rfl) (.slice A4 l.length c4) l R ad 100 cap1 (by rfl) (by rfl) HO4.out HR4.out (Below.refl _ _) HZ4.out (by omega) Try.underlying23 info5 ?_
      intro v5 w5 HO5 HB5 _
      obtain ⟨A5, c5, rfl⟩ := own_slice HO5
      have H5 := Lib.hid HO5
      have HB5' := Lib.hid HB5
      clear HO5 HB5
      obtain ⟨g5, rfl, hn5, hd5⟩ := row_data (l := l ++ R) H5.out (by have := HLP.out; have h : 0 < l.length := this; rw [List.length_append]; omega) HBY.out
      have HBX := Lib.hid (HB4.out.trans (HB5'.out.mono HB2.out.size))
      have HD5 := Lib.hid hd5
      clear hd5
      rw [List.length_append] at hn5
      refine HK2.out _ _ ⟨trivial, ?_⟩
      clear HK2
      try simp only [Act.put, List.setIfInBounds_toArray, List.set_cons_zero, List.set_cons_succ]
      refine till_step (i := 8) (by kernel_rfl) rfl (fun K3 hK3 => ?_)
      have HK3 := Lib.hid hK3
      clear hK3
      go_simp
      refine (skip_impl w5 g5 0 c5 (l.length + R.length) l.length fun W hW => HSK.out W g5 c5 hn5 (HD5.out W hW)).mono ?_
      rintro e w6 ⟨rfl, hb6⟩
      have HB6 := Lib.hid (HBX.out.trans (hb6.mono HBX.out.size))
      clear hb6
      go_simp
      refine HK3.out _ _ ⟨trivial, ?_⟩
      clear HK3
      try simp only [Act.put, List.setIfInBounds_toArray, List.set_cons_zero, List.set_cons_succ]
      refine till_take_free (i := 9) (v := ?tvbx9) rfl (by kernel_rfl) (by kernel_rfl) (by kernel_rfl) (by kernel_rfl) (fun c a1 w1 h1 => hqp c _ _ _ w1 h1) trivial (Or.inl ⟨by rfl, ?tybx9⟩) ?trbx9
      case tybx9 => intro W hW; go_simp; try with_reducible rfl
      try simp only [Act.put, List.setIfInBounds_toArray, List.set_cons_zero, List.set_cons_succ]
      refine till_take_free (i := 10) (v := ?tvbx10) rfl (by kernel_rfl) (by kernel_rfl) (by kernel_rfl) (by kernel_rfl) (fun c a1 w1 h1 => hqp c _ _ _ w1 h1) trivial (Or.inl ⟨by rfl, ?tybx10⟩) ?trbx10
      case tybx10 => intro W hW; go_simp; try with_reducible rfl
      try simp only [Act.put, List.setIfInBounds_toArray, List.set_cons_zero, List.set_cons_succ]
      refine till_take_free (i := 11) (v := ?tvbx11) rfl (by kernel_rfl) (by kernel_rfl) (by kernel_rfl) (by kernel_rfl) (fun c a1 w1 h1 => hqp c _ _ _ w1 h1) trivial (Or.inl ⟨by rfl, ?tybx11⟩) ?trbx11
      case tybx11 => intro W hW; go_simp; try with_reducible rfl
      try simp only [Act.put, List.setIfInBounds_toArray, List.set_cons_zero, List.set_cons_succ]
      refine till_take_free (i := 12) (v := ?tvbx12) rfl (by kernel_rfl) (by kernel_rfl) (by kernel_rfl) (by kernel_rfl) (fun c a1 w1 h1 => hqp c _ _ _ w1 h1) trivial (Or.inl ⟨by rfl, ?tybx12⟩) ?trbx12
      case tybx12 => intro W hW; go_simp; try with_reducible rfl
      try simp only [Act.put, List.setIfInBounds_toArray, List.set_cons_zero, List.set_cons_succ]
      refine till_take_free (i := 13) (v := ?tvbx13) rfl (by kernel_rfl) (by kernel_rfl) (by kernel_rfl) (by kernel_rfl) (fun c a1 w1 h1 => hqp c _ _ _ w1 h1) trivial (Or.inl ⟨by rfl, ?tybx13⟩) ?trbx13
      case tybx13 => intro W hW; go_simp; try with_reducible rfl
      try simp only [Act.put, List.setIfInBounds_toArray, List.set_cons_zero, List.set_cons_succ]
      refine ⟨by kernel_rfl, ?_⟩
      have hq := hQ'.out
      clear hQ' hqp
      subst hq
      go_wp2_with fail
      go_returns
      exact ⟨rfl, HB6.out⟩

set_option maxHeartbeats 4000000 in
set_option maxRecDepth 100000 in
theorem skip_walk_none (w : World) (h : Nat) (t : Tr) (hO : OkT (· < w.heap.size) w h t) :
    Calls Try.prog 5 #[.agg #[.int .i64 t.num, .int .i64 t.kind, .int .u64 t.n, .slice t.ba t.bytes.length t.bc, .slice t.ia t.ins.length t.ic], .slice none 0 0] w fun e w' => e = .returned (.bool true) ∧ Below w.heap.size w w' := by
  have HF := Lib.hid fun W hW => field_tree h (W0 := w.heap.size) W (Below.size hW) (hO.below hW) 0 (by omega) (by omega)
  clear hO
  go_enter Try.func5, Try.ntmps5
  go_wp2_with fail
  refine (fits3 _ _ _ _ _ _ _ _ _ _).mono ?_
  rintro e w1 ⟨b, rfl, hb⟩
  obtain ⟨y0, y1, y2, y3, y4⟩ := fbox hb
  have HB1 := Lib.hid ((wa_below w _).trans (hb.mono (wa_below w _).size))
  clear hb
  cases b with
  | false =>
    go_wp2_with fail
    go_returns
    exact ⟨rfl, HB1.out⟩
  | true =>
    go_wp2_with fail
    refine (HF.out _ HB1.out).mono ?_
    rintro e w2 ⟨t', rfl, hok, hfit, hb2⟩
    have HB2' := Lib.hid (HB1.out.trans (hb2.mono HB1.out.size))
    have HOK := Lib.hid hok
    have HFT : Hid (FitT 7 t') := hfit (by omega)
    clear hok hfit hb2 y0 y1 y2 y3 y4 HF HB1
    go_wp2_with fail
    refine (written_tree 7 (Nat.le_refl _) HOK.out HFT.out w2 (Below.refl _ _)).mono ?_
    rintro e w3 ⟨v, rfl, ho, hb⟩
    have HLN := encT_len 7 HOK.out HFT.out
    have hbd := bdT_7 7 (Nat.le_refl _)
    have hby := enc_bytes 7 HOK.out
    have HSK0 := Lib.hid fun W g c (hn : (encT 7 t').length ≤ c) (hD : Data W g 0 (encT 7 t')) => skip_tree 7 HOK.out HFT.out W g 0 c (encT 7 t').length (encT 7 t') [] rfl (by omega) hn hD (List.append_nil _).symm
    have hpos : 0 < (encT 7 t').length := enc_pos 7 t'
    have HB2 := Lib.hid (HB2'.out.trans (hb.mono HB2'.out.size))
    obtain ⟨A, c, rfl⟩ := own_slice ho
    obtain ⟨g, rfl, hnc, hD⟩ := row_data ho hpos hby
    have hcl : Hid (∀ W, Below w3.heap.size w3 W → Calls Try.prog 19 #[.slice (some ⟨g, 0, none⟩) (encT 7 t').length c] W (ClonePost (encT 7 t') W)) := fun W hW => clone_big _ _ _ (by omega) W ⟨hby, by omega, fun _ => ⟨_, rfl, fun j hj => by rw [Go.WideShapes.add_plain]; exact (hD W hW).2 j hj⟩⟩
    have HBY : Hid (Bytes8 (encT 7 t')) := hby
    have HLP := Lib.hid hpos
    have hll : (encT 7 t').length ≤ 30000000 := by omega
    clear ho hb hD hby HOK HFT HLN hbd HB2' hpos
    generalize encT 7 t' = l at HSK0 hcl HBY HLP hll hnc ⊢
    have HSK := HSK0
    have HCL := hcl
    clear HSK0 hcl
    go_wp2_with fail
    refine region_hid (fun _ _ _ _ _ h => h) fun Q' hQ' hqp => ?_
    refine region_till 7 (fun _ => True) (by kernel_rfl) ?_
    refine till_take_free (i := 0) (v := ?tvcx0) rfl (by kernel_rfl) (by kernel_rfl) (by kernel_rfl) (by kernel_rfl) (fun c a1 w1 h1 => hqp c _ _ _ w1 h1) trivial (Or.inl ⟨by rfl, ?tycx0⟩) ?trcx0
    case tycx0 => intro W hW; go_simp; try with_reducible rfl
    try simp only [Act.put, List.setIfInBounds_toArray, List.set_cons_zero, List.set_cons_succ]
    refine till_take_free (i := 2) (v := ?tvcx2) rfl (by kernel_rfl) (by kernel_rfl) (by kernel_rfl) (by kernel_rfl) (fun c a1 w1 h1 => hqp c _ _ _ w1 h1) trivial (Or.inl ⟨by rfl, ?tycx2⟩) ?trcx2
    case tycx2 => intro W hW; go_simp; try with_reducible rfl
    try simp only [Act.put, List.setIfInBounds_toArray, List.set_cons_zero, List.set_cons_succ]
    refine till_take_free (i := 3) (v := ?tvcx3) rfl (by kernel_rfl) (by kernel_rfl) (by kernel_rfl) (by kernel_rfl) (fun c a1 w1 h1 => hqp c _ _ _ w1 h1) trivial (Or.inl ⟨by rfl, ?tycx3⟩) ?trcx3
    case tycx3 => intro W hW; go_simp; try with_reducible rfl
    try simp only [Act.put, List.setIfInBounds_toArray, List.set_cons_zero, List.set_cons_succ]
    refine till_take_free (i := 4) (v := ?tvcx4) rfl (by kernel_rfl) (by kernel_rfl) (by kernel_rfl) (by kernel_rfl) (fun c a1 w1 h1 => hqp c _ _ _ w1 h1) trivial (Or.inl ⟨by rfl, ?tycx4⟩) ?trcx4
    case tycx4 => intro W hW; go_simp; try with_reducible rfl
    try simp only [Act.put, List.setIfInBounds_toArray, List.set_cons_zero, List.set_cons_succ]
    refine till_take_free (i := 5) (v := ?tvcx5) rfl (by kernel_rfl) (by kernel_rfl) (by kernel_rfl) (by kernel_rfl) (fun c a1 w1 h1 => hqp c _ _ _ w1 h1) trivial (Or.inl ⟨by rfl, ?tycx5⟩) ?trcx5
    case tycx5 => intro W hW; go_simp; try with_reducible rfl
    try simp only [Act.put, List.setIfInBounds_toArray, List.set_cons_zero, List.set_cons_succ]
    refine till_take_free (i := 6) (v := ?tvcx6) rfl (by kernel_rfl) (by kernel_rfl) (by kernel_rfl) (by kernel_rfl) (fun c a1 w1 h1 => hqp c _ _ _ w1 h1) trivial (Or.inl ⟨by rfl, ?tycx6⟩) ?trcx6
    case tycx6 => intro W hW; go_simp; try with_reducible rfl
    try simp only [Act.put, List.setIfInBounds_toArray, List.set_cons_zero, List.set_cons_succ]
    refine till_step (i := 1) (by kernel_rfl) rfl (fun K hK => ?_)
    have HK := Lib.hid hK
    clear hK
    go_simp
    refine (HCL.out w3.drew (below_drew (Below.refl _ _))).mono ?_
    rintro e w4 ⟨v4, rfl, ho4, hb4⟩
    obtain ⟨A4, c4, rfl⟩ := own_slice ho4
    have HO4 := Lib.hid ho4
    have HB4 := Lib.hid (HB2.out.trans ((Below.trans (below_drew (Below.refl _ _)) hb4).mono HB2.out.size))
    have HZ4 : Hid (w3.heap.size ≤ w4.heap.size) := hb4.size
    clear ho4 hb4 HCL
    go_simp
    refine HK.out _ _ ⟨trivial, ?_⟩
    clear HK
    try simp only [Act.put, List.setIfInBounds_toArray, List.set_cons_zero, List.set_cons_succ]
    refine till_step (i := 7) (by kernel_rfl) rfl (fun K2 hK2 => ?_)
    have HK2 := Lib.hid hK2
    clear hK2
    refine step_append_none w3.heap.size rfl (.tmp 21) (.tmp 26) (by rfl) (.slice A4 l.length c4) l (by rfl) (by rfl) HO4.out Try.underlying23 info5 ?_
    have H5 := HO4
    have HBX := HB4
    have HD : ∀ (A5 : Option Addr) c5, Hid (w4.ownsRow w3.heap.size 5 1 (.slice A5 l.length c5) l.length (nums .u8 l)) → ∃ g5, A5 = some ⟨g5, 0, none⟩ ∧ l.length ≤ c5 ∧ ∀ W, Below w4.heap.size w4 W → Data W g5 0 l := fun A5 c5 h => row_data h.out HLP.out HBY.out
    obtain ⟨g5, rfl, hn5, hd5⟩ := HD A4 c4 H5
    clear HD
    have HD5 := Lib.hid hd5
    clear hd5
    refine HK2.out _ _ ⟨trivial, ?_⟩
    clear HK2
    try simp only [Act.put, List.setIfInBounds_toArray, List.set_cons_zero, List.set_cons_succ]
    refine till_step (i := 8) (by kernel_rfl) rfl (fun K3 hK3 => ?_)
    have HK3 := Lib.hid hK3
    clear hK3
    go_simp
    refine (skip_impl w4 g5 0 c4 l.length l.length fun W hW => HSK.out W g5 c4 hn5 (HD5.out W hW)).mono ?_
    rintro e w6 ⟨rfl, hb6⟩
    have HB6 := Lib.hid (HBX.out.trans (hb6.mono HBX.out.size))
    clear hb6
    go_simp
    refine HK3.out _ _ ⟨trivial, ?_⟩
    clear HK3
    try simp only [Act.put, List.setIfInBounds_toArray, List.set_cons_zero, List.set_cons_succ]
    refine till_take_free (i := 9) (v := ?tvcx9) rfl (by kernel_rfl) (by kernel_rfl) (by kernel_rfl) (by kernel_rfl) (fun c a1 w1 h1 => hqp c _ _ _ w1 h1) trivial (Or.inl ⟨by rfl, ?tycx9⟩) ?trcx9
    case tycx9 => intro W hW; go_simp; try with_reducible rfl
    try simp only [Act.put, List.setIfInBounds_toArray, List.set_cons_zero, List.set_cons_succ]
    refine till_take_free (i := 10) (v := ?tvcx10) rfl (by kernel_rfl) (by kernel_rfl) (by kernel_rfl) (by kernel_rfl) (fun c a1 w1 h1 => hqp c _ _ _ w1 h1) trivial (Or.inl ⟨by rfl, ?tycx10⟩) ?trcx10
    case tycx10 => intro W hW; go_simp; try with_reducible rfl
    try simp only [Act.put, List.setIfInBounds_toArray, List.set_cons_zero, List.set_cons_succ]
    refine till_take_free (i := 11) (v := ?tvcx11) rfl (by kernel_rfl) (by kernel_rfl) (by kernel_rfl) (by kernel_rfl) (fun c a1 w1 h1 => hqp c _ _ _ w1 h1) trivial (Or.inl ⟨by rfl, ?tycx11⟩) ?trcx11
    case tycx11 => intro W hW; go_simp; try with_reducible rfl
    try simp only [Act.put, List.setIfInBounds_toArray, List.set_cons_zero, List.set_cons_succ]
    refine till_take_free (i := 12) (v := ?tvcx12) rfl (by kernel_rfl) (by kernel_rfl) (by kernel_rfl) (by kernel_rfl) (fun c a1 w1 h1 => hqp c _ _ _ w1 h1) trivial (Or.inl ⟨by rfl, ?tycx12⟩) ?trcx12
    case tycx12 => intro W hW; go_simp; try with_reducible rfl
    try simp only [Act.put, List.setIfInBounds_toArray, List.set_cons_zero, List.set_cons_succ]
    refine till_take_free (i := 13) (v := ?tvcx13) rfl (by kernel_rfl) (by kernel_rfl) (by kernel_rfl) (by kernel_rfl) (fun c a1 w1 h1 => hqp c _ _ _ w1 h1) trivial (Or.inl ⟨by rfl, ?tycx13⟩) ?trcx13
    case tycx13 => intro W hW; go_simp; try with_reducible rfl
    try simp only [Act.put, List.setIfInBounds_toArray, List.set_cons_zero, List.set_cons_succ]
    refine ⟨by kernel_rfl, ?_⟩
    have hq := hQ'.out
    clear hQ' hqp
    subst hq
    go_wp2_with fail
    go_returns
    exact ⟨rfl, HB6.out⟩

end Go.Proofs.Ytobponaenabpgaa.Rd
