/- FnSorted's walk. -/
import Derived.Test.YtnembmpjnlipeaaImpl
import Derived.Test.YtnembmpjnlipeaaFits
import Derived.Test.YtnembmpjnlipeaaSpecStr
import Derived.Test.YtnembmpjnlipeaaSpecI64
import Derived.Test.YtnembmpjnlipeaaSpecU64
import Derived.Test.YtnembmpjnlipeaaSpecI32
import Derived.Test.YtnembmpjnlipeaaSpecU32
import Derived.StillTailTactics
namespace Go.Proofs.Ytnembmpjnlipeaa.So
open Go.RowKit Go.Maps Go.Lib
set_option linter.unusedVariables false

/-- What the law is told of its five lists; each as far as the law looks. -/
structure Keys5 (w : World) (A0 A1 A2 A3 A4 : Option Addr) (N0 N1 N2 N3 N4 C0 C1 C2 C3 C4 n0 n1 n2 n3 n4 : Nat) (L : List (List UInt8)) (l1 l2 l3 l4 : List Int) : Prop where
  all : HoldsE encStr w A0 L
  len : L.length = N0
  h0 : HoldsE encStr w A0 (L.take n0)
  e0 : (L.take n0).length = n0
  m0 : N0 ≤ 9223372036854775807
  c0 : N0 ≤ C0
  z0 : A0 = none → C0 = 0
  q0 : (n0 = N0 ∧ N0 ≤ 200) ∨ (n0 = 200 ∧ 200 < N0)
  w0 : ∀ x ∈ L.take n0, x.length ≤ maxLen
  h1 : HoldsE (Value.int .i64) w A1 l1
  e1 : l1.length = n1
  m1 : N1 ≤ 9223372036854775807
  c1 : N1 ≤ C1
  z1 : A1 = none → C1 = 0
  q1 : (n1 = N1 ∧ N1 ≤ 200) ∨ (n1 = 200 ∧ 200 < N1)
  w1 : ∀ x ∈ l1, (Lit.int .i64 x).wf = true
  h2 : HoldsE (Value.int .u64) w A2 l2
  e2 : l2.length = n2
  m2 : N2 ≤ 9223372036854775807
  c2 : N2 ≤ C2
  z2 : A2 = none → C2 = 0
  q2 : (n2 = N2 ∧ N2 ≤ 200) ∨ (n2 = 200 ∧ 200 < N2)
  w2 : ∀ x ∈ l2, (Lit.int .u64 x).wf = true
  h3 : HoldsE (Value.int .i32) w A3 l3
  e3 : l3.length = n3
  m3 : N3 ≤ 9223372036854775807
  c3 : N3 ≤ C3
  z3 : A3 = none → C3 = 0
  q3 : (n3 = N3 ∧ N3 ≤ 200) ∨ (n3 = 200 ∧ 200 < N3)
  w3 : ∀ x ∈ l3, (Lit.int .i32 x).wf = true
  h4 : HoldsE (Value.int .u32) w A4 l4
  e4 : l4.length = n4
  m4 : N4 ≤ 9223372036854775807
  c4 : N4 ≤ C4
  z4 : A4 = none → C4 = 0
  q4 : (n4 = N4 ∧ N4 ≤ 200) ∨ (n4 = 200 ∧ 200 < N4)
  w4 : ∀ x ∈ l4, (Lit.int .u32 x).wf = true

theorem box_frozen {wx : World} {g : Nat} {v0 v1 v2 v3 v4 : Value} (h : wx.heap[g]? = some (.cells #[v0, v1, v2, v3, v4] 28 (0, 0))) : wx.frozen? ⟨g, 0, none⟩ = false ∧ wx.frozen? ⟨g, 1, none⟩ = false ∧ wx.frozen? ⟨g, 2, none⟩ = false ∧ wx.frozen? ⟨g, 3, none⟩ = false ∧ wx.frozen? ⟨g, 4, none⟩ = false := by
  refine ⟨?_, ?_, ?_, ?_, ?_⟩ <;> simp [World.frozen?, h]


theorem drew_below {B : Nat} {a b : World} (h : Below B a b) : Below B a b.drew := ⟨h.os, h.tape, h.output, h.size, h.block⟩

theorem Out.below {α : Type} {enc : α → Value} {lt : α → α → Bool} {A : Option Addr} {l : List α} {w w1 : World} (h : Out enc lt A l w) (hb : Below w.heap.size w w1) : Out enc lt A l w1 := by
  obtain ⟨s, h1, h2, h3⟩ := h
  exact ⟨s, h1, h2, h3.below hb⟩

theorem le_int {s : List Int} (h : ∀ i j (h : j < s.length) (h' : i < j), Sort.ltInt s[j] (s[i]'(by omega)) = false) : ∀ i j (h : j < s.length) (h' : i ≤ j), s[i]'(by omega) ≤ s[j] := by
  intro i j hj hij
  rcases Nat.lt_or_ge i j with hlt | hge
  · have := h i j hj hlt
    simp only [Sort.ltInt, decide_eq_false_iff_not] at this
    omega
  · obtain rfl : i = j := by omega
    exact Int.le_refl _

theorem le_str {s : List (List UInt8)} (h : ∀ i j (h : j < s.length) (h' : i < j), Sort.ltStr s[j] (s[i]'(by omega)) = false) : ∀ i j (h : j < s.length) (h' : i ≤ j), ¬ s[j] < s[i]'(by omega) := by
  intro i j hj hij
  rcases Nat.lt_or_ge i j with hlt | hge
  · have := h i j hj hlt
    simpa only [Sort.ltStr, decide_eq_false_iff_not] using this
  · obtain rfl : i = j := by omega
    exact List.lt_irrefl _

theorem Keys5.in5 {w : World} {A0 A1 A2 A3 A4 : Option Addr} {N0 N1 N2 N3 N4 C0 C1 C2 C3 C4 n0 n1 n2 n3 n4 : Nat} {L : List (List UInt8)} {l1 l2 l3 l4 : List Int} (h : Keys5 w A0 A1 A2 A3 A4 N0 N1 N2 N3 N4 C0 C1 C2 C3 C4 n0 n1 n2 n3 n4 L l1 l2 l3 l4) {V : World} (hV : Below w.heap.size w V) :
    In5 V A0 A1 A2 A3 A4 n0 n1 n2 n3 n4 C0 C1 C2 C3 C4 (L.take n0) l1 l2 l3 l4 :=
  { h0 := h.h0.below hV, h1 := h.h1.below hV, h2 := h.h2.below hV, h3 := h.h3.below hV, h4 := h.h4.below hV, e0 := h.e0, e1 := h.e1, e2 := h.e2, e3 := h.e3, e4 := h.e4,
    m0 := by have := h.q0; omega, m1 := by have := h.q1; omega, m2 := by have := h.q2; omega, m3 := by have := h.q3; omega, m4 := by have := h.q4; omega,
    z0 := h.z0, z1 := h.z1, z2 := h.z2, z3 := h.z3, z4 := h.z4 }

theorem spec_at_str {w w7 : World} {A B : Option Addr} {C d n : Nat} {l : List (List UInt8)} (hn : n ≤ 1000) (hl : l.length = n) (hw : ∀ x ∈ l, x.length ≤ maxLen) (hA : HoldsE encStr w A l) (hb : Below w.heap.size w w7) (hO : Out encStr Sort.ltStr B l w7) (W : World) (hW : Below w7.heap.size w7 W) :
    Calls Try.prog 6 #[.slice A n C, .slice B n d] W fun e w' => e = .returned (.bool true) ∧ Hid (Below w7.heap.size w7 w') := by
  obtain ⟨s, h1, h2, h3⟩ := hO
  exact (spec_str W A B C d n l s hn hl (by rw [← h1.length_eq]; exact hl) h1 (le_str h2) hw ((hA.below hb).below hW) (h3.below hW)).mono fun e w' ⟨he, hbb⟩ => ⟨he, hW.trans (hbb.mono hW.size)⟩

theorem spec_at_i64 {w w7 : World} {A B : Option Addr} {C d n : Nat} {l : List Int} (hn : n ≤ 1000) (hl : l.length = n) (hw : ∀ x ∈ l, (Lit.int .i64 x).wf = true) (hA : HoldsE (Value.int .i64) w A l) (hb : Below w.heap.size w w7) (hO : Out (Value.int .i64) Sort.ltInt B l w7) (W : World) (hW : Below w7.heap.size w7 W) :
    Calls Try.prog 7 #[.slice A n C, .slice B n d] W fun e w' => e = .returned (.bool true) ∧ Hid (Below w7.heap.size w7 w') := by
  obtain ⟨s, h1, h2, h3⟩ := hO
  exact (spec_i64 W A B C d n l s hn hl (by rw [← h1.length_eq]; exact hl) h1 (le_int h2) hw ((hA.below hb).below hW) (h3.below hW)).mono fun e w' ⟨he, hbb⟩ => ⟨he, hW.trans (hbb.mono hW.size)⟩

theorem spec_at_u64 {w w7 : World} {A B : Option Addr} {C d n : Nat} {l : List Int} (hn : n ≤ 1000) (hl : l.length = n) (hw : ∀ x ∈ l, (Lit.int .u64 x).wf = true) (hA : HoldsE (Value.int .u64) w A l) (hb : Below w.heap.size w w7) (hO : Out (Value.int .u64) Sort.ltInt B l w7) (W : World) (hW : Below w7.heap.size w7 W) :
    Calls Try.prog 8 #[.slice A n C, .slice B n d] W fun e w' => e = .returned (.bool true) ∧ Hid (Below w7.heap.size w7 w') := by
  obtain ⟨s, h1, h2, h3⟩ := hO
  exact (spec_u64 W A B C d n l s hn hl (by rw [← h1.length_eq]; exact hl) h1 (le_int h2) hw ((hA.below hb).below hW) (h3.below hW)).mono fun e w' ⟨he, hbb⟩ => ⟨he, hW.trans (hbb.mono hW.size)⟩

theorem spec_at_i32 {w w7 : World} {A B : Option Addr} {C d n : Nat} {l : List Int} (hn : n ≤ 1000) (hl : l.length = n) (hw : ∀ x ∈ l, (Lit.int .i32 x).wf = true) (hA : HoldsE (Value.int .i32) w A l) (hb : Below w.heap.size w w7) (hO : Out (Value.int .i32) Sort.ltInt B l w7) (W : World) (hW : Below w7.heap.size w7 W) :
    Calls Try.prog 9 #[.slice A n C, .slice B n d] W fun e w' => e = .returned (.bool true) ∧ Hid (Below w7.heap.size w7 w') := by
  obtain ⟨s, h1, h2, h3⟩ := hO
  exact (spec_i32 W A B C d n l s hn hl (by rw [← h1.length_eq]; exact hl) h1 (le_int h2) hw ((hA.below hb).below hW) (h3.below hW)).mono fun e w' ⟨he, hbb⟩ => ⟨he, hW.trans (hbb.mono hW.size)⟩

theorem spec_at_u32 {w w7 : World} {A B : Option Addr} {C d n : Nat} {l : List Int} (hn : n ≤ 1000) (hl : l.length = n) (hw : ∀ x ∈ l, (Lit.int .u32 x).wf = true) (hA : HoldsE (Value.int .u32) w A l) (hb : Below w.heap.size w w7) (hO : Out (Value.int .u32) Sort.ltInt B l w7) (W : World) (hW : Below w7.heap.size w7 W) :
    Calls Try.prog 10 #[.slice A n C, .slice B n d] W fun e w' => e = .returned (.bool true) ∧ Hid (Below w7.heap.size w7 w') := by
  obtain ⟨s, h1, h2, h3⟩ := hO
  exact (spec_u32 W A B C d n l s hn hl (by rw [← h1.length_eq]; exact hl) h1 (le_int h2) hw ((hA.below hb).below hW) (h3.below hW)).mono fun e w' ⟨he, hbb⟩ => ⟨he, hW.trans (hbb.mono hW.size)⟩


theorem min_eq {N n : Nat} (h : (n = N ∧ N ≤ 200) ∨ (n = 200 ∧ 200 < N)) : min (N : Int) 200 = (n : Int) := by
  omega

set_option maxHeartbeats 4000000 in
set_option maxRecDepth 100000 in
theorem sorted_walk (w : World) (A0 A1 A2 A3 A4 : Option Addr) (N0 N1 N2 N3 N4 C0 C1 C2 C3 C4 n0 n1 n2 n3 n4 : Nat) (L : List (List UInt8)) (l1 l2 l3 l4 : List Int) (h : Keys5 w A0 A1 A2 A3 A4 N0 N1 N2 N3 N4 C0 C1 C2 C3 C4 n0 n1 n2 n3 n4 L l1 l2 l3 l4) :
    Calls Try.prog 3 #[.agg #[.slice A0 N0 C0, .slice A1 N1 C1, .slice A2 N2 C2, .slice A3 N3 C3, .slice A4 N4 C4]] w fun e w' => e = .returned (.bool true) ∧ Below w.heap.size w w' := by
  have HK := Lib.hid h
  have HF := Lib.hid fun W (hW : Below w.heap.size w W) => fits4 W A0 A1 A2 A3 A4 N0 N1 N2 N3 N4 C0 C1 C2 C3 C4 L h.len h.m0 h.m1 h.m2 h.m3 h.m4 (h.all.below hW)
  have b0 := h.c0
  have b1 := h.c1
  have b2 := h.c2
  have b3 := h.c3
  have b4 := h.c4
  clear h
  go_enter Try.func3, Try.ntmps3
  go_wp2_with fail
  refine (HF.out _ (by go_grown)).mono ?_
  rintro e w1 ⟨b, rfl, hb⟩
  have hA : Below w.heap.size w (w.alloc (.cells #[.slice A0 N0 C0, .slice A1 N1 C1, .slice A2 N2 C2, .slice A3 N3 C3, .slice A4 N4 C4] 28)) := (Below.refl _ _).alloc (Nat.le_refl _) _
  have HB1 := Lib.hid (hA.trans (hb.mono hA.size))
  have HBX := Lib.hid (blk_below (heap_alloc_new w (.cells #[.slice A0 N0 C0, .slice A1 N1 C1, .slice A2 N2 C2, .slice A3 N3 C3, .slice A4 N4 C4] 28)) hb)
  clear hb HF hA
  cases b with
  | false =>
    go_wp2_with fail
    go_returns
    exact ⟨rfl, HB1.out⟩
  | true =>
    obtain ⟨y0, y1, y2, y3, y4⟩ := box_cells HBX.out
    obtain ⟨f0, f1, f2, f3, f4⟩ := box_frozen HBX.out
    have g0 := min_eq HK.out.q0
    have g1 := min_eq HK.out.q1
    have g2 := min_eq HK.out.q2
    have g3 := min_eq HK.out.q3
    have g4 := min_eq HK.out.q4
    have k0 : n0 ≤ C0 := by have := HK.out.q0; omega
    have k1 : n1 ≤ C1 := by have := HK.out.q1; omega
    have k2 : n2 ≤ C2 := by have := HK.out.q2; omega
    have k3 : n3 ≤ C3 := by have := HK.out.q3; omega
    have k4 : n4 ≤ C4 := by have := HK.out.q4; omega
    have i0 : (n0 : Int) ≤ (C0 : Int) := by omega
    have i1 : (n1 : Int) ≤ (C1 : Int) := by omega
    have i2 : (n2 : Int) ≤ (C2 : Int) := by omega
    have i3 : (n3 : Int) ≤ (C3 : Int) := by omega
    have i4 : (n4 : Int) ≤ (C4 : Int) := by omega
    go_upto_region 3 with (fail)
    go_still_tail 36, (by kernel_rfl)
    change wpList _ _ _ _ _ w1.drew
    go_wp2_with fail
    have hgr := grown_two (grown_two (grown_two (grown_two (set_grown w1 w.heap.size 0 (.slice A0 n0 C0)) (set_grown _ w.heap.size 1 (.slice A1 n1 C1))) (set_grown _ w.heap.size 2 (.slice A2 n2 C2))) (set_grown _ w.heap.size 3 (.slice A3 n3 C3))) (set_grown _ w.heap.size 4 (.slice A4 n4 C4))
    have t1 := heap_setCell_same w1 w.heap.size 0 _ _ (.slice A0 n0 C0) HBX.out
    have t2 := heap_setCell_same _ w.heap.size 1 _ _ (.slice A1 n1 C1) t1
    have t3 := heap_setCell_same _ w.heap.size 2 _ _ (.slice A2 n2 C2) t2
    have t4 := heap_setCell_same _ w.heap.size 3 _ _ (.slice A3 n3 C3) t3
    have t5 := heap_setCell_same _ w.heap.size 4 _ _ (.slice A4 n4 C4) t4
    have hbl := HB1.out.grown hgr HB1.out.size (fun k hk => by cases hk; exact Nat.le_refl _)
    have HV := Lib.hid (drew_below hbl)
    have HVX : Hid ((((((w1.setCell ⟨w.heap.size, 0, none⟩ (.slice A0 n0 C0)).setCell ⟨w.heap.size, 1, none⟩ (.slice A1 n1 C1)).setCell ⟨w.heap.size, 2, none⟩ (.slice A2 n2 C2)).setCell ⟨w.heap.size, 3, none⟩ (.slice A3 n3 C3)).setCell ⟨w.heap.size, 4, none⟩ (.slice A4 n4 C4)).drew.heap[w.heap.size]? = some (.cells #[.slice A0 n0 C0, .slice A1 n1 C1, .slice A2 n2 C2, .slice A3 n3 C3, .slice A4 n4 C4] 28 (0, 0))) := (show (((((w1.setCell ⟨w.heap.size, 0, none⟩ (.slice A0 n0 C0)).setCell ⟨w.heap.size, 1, none⟩ (.slice A1 n1 C1)).setCell ⟨w.heap.size, 2, none⟩ (.slice A2 n2 C2)).setCell ⟨w.heap.size, 3, none⟩ (.slice A3 n3 C3)).setCell ⟨w.heap.size, 4, none⟩ (.slice A4 n4 C4)).heap[w.heap.size]? = some (.cells #[.slice A0 n0 C0, .slice A1 n1 C1, .slice A2 n2 C2, .slice A3 n3 C3, .slice A4 n4 C4] 28 (0, 0)) from by simpa using t5)
    clear hgr t1 t2 t3 t4 t5 hbl y0 y1 y2 y3 y4 f0 f1 f2 f3 f4 g0 g1 g2 g3 g4 HBX HB1
    generalize (((((w1.setCell ⟨w.heap.size, 0, none⟩ (.slice A0 n0 C0)).setCell ⟨w.heap.size, 1, none⟩ (.slice A1 n1 C1)).setCell ⟨w.heap.size, 2, none⟩ (.slice A2 n2 C2)).setCell ⟨w.heap.size, 3, none⟩ (.slice A3 n3 C3)).setCell ⟨w.heap.size, 4, none⟩ (.slice A4 n4 C4)).drew = V at HV HVX ⊢
    refine (impl_sorted V A0 A1 A2 A3 A4 n0 n1 n2 n3 n4 C0 C1 C2 C3 C4 (L.take n0) l1 l2 l3 l4 (HK.out.in5 HV.out)).mono ?_
    rintro e w6 ⟨B0, B1, B2, B3, B4, d0, d1, d2, d3, d4, rfl, o0, o1, o2, o3, o4, hb6⟩
    have hA6 : Below w6.heap.size w6 (w6.alloc (.cells #[.slice B0 n0 d0, .slice B1 n1 d1, .slice B2 n2 d2, .slice B3 n3 d3, .slice B4 n4 d4] 28)) := (Below.refl _ _).alloc (Nat.le_refl _) _
    have HB6 := Lib.hid ((HV.out.trans (hb6.mono HV.out.size)).trans (hA6.mono (Nat.le_trans HV.out.size hb6.size)))
    have HX := Lib.hid (blk_below (blk_below HVX.out hb6) hA6)
    have HY := Lib.hid (heap_alloc_new w6 (.cells #[.slice B0 n0 d0, .slice B1 n1 d1, .slice B2 n2 d2, .slice B3 n3 d3, .slice B4 n4 d4] 28))
    have O0 := Lib.hid (o0.below hA6)
    have O1 := Lib.hid (o1.below hA6)
    have O2 := Lib.hid (o2.below hA6)
    have O3 := Lib.hid (o3.below hA6)
    have O4 := Lib.hid (o4.below hA6)
    clear o0 o1 o2 o3 o4 hb6 hA6 HV HVX
    obtain ⟨x0, x1, x2, x3, x4⟩ := box_cells HX.out
    go_wp2_with fail
    clear x0 x1 x2 x3 x4
    generalize (w6.alloc (.cells #[.slice B0 n0 d0, .slice B1 n1 d1, .slice B2 n2 d2, .slice B3 n3 d3, .slice B4 n4 d4] 28)) = w7 at HB6 HX HY O0 O1 O2 O3 O4 ⊢
    have HZ := Lib.hid (Below.refl w7.heap.size w7)
    refine (spec_at_str (l := L.take n0) (by have := HK.out.q0; omega) HK.out.e0 HK.out.w0 HK.out.h0 HB6.out O0.out _ HZ.out).mono ?_
    clear HZ
    rintro e z0 ⟨rfl, HZ⟩
    obtain ⟨x0, x1, x2, x3, x4⟩ := box_cells (blk_below HX.out HZ.out)
    obtain ⟨y0, y1, y2, y3, y4⟩ := box_cells (blk_below HY.out HZ.out)
    go_wp2_with fail
    clear x0 x1 x2 x3 x4 y0 y1 y2 y3 y4
    refine (spec_at_i64 (l := l1) (by have := HK.out.q1; omega) HK.out.e1 HK.out.w1 HK.out.h1 HB6.out O1.out _ HZ.out).mono ?_
    clear HZ
    rintro e z1 ⟨rfl, HZ⟩
    obtain ⟨x0, x1, x2, x3, x4⟩ := box_cells (blk_below HX.out HZ.out)
    obtain ⟨y0, y1, y2, y3, y4⟩ := box_cells (blk_below HY.out HZ.out)
    go_wp2_with fail
    clear x0 x1 x2 x3 x4 y0 y1 y2 y3 y4
    refine (spec_at_u64 (l := l2) (by have := HK.out.q2; omega) HK.out.e2 HK.out.w2 HK.out.h2 HB6.out O2.out _ HZ.out).mono ?_
    clear HZ
    rintro e z2 ⟨rfl, HZ⟩
    obtain ⟨x0, x1, x2, x3, x4⟩ := box_cells (blk_below HX.out HZ.out)
    obtain ⟨y0, y1, y2, y3, y4⟩ := box_cells (blk_below HY.out HZ.out)
    go_wp2_with fail
    clear x0 x1 x2 x3 x4 y0 y1 y2 y3 y4
    refine (spec_at_i32 (l := l3) (by have := HK.out.q3; omega) HK.out.e3 HK.out.w3 HK.out.h3 HB6.out O3.out _ HZ.out).mono ?_
    clear HZ
    rintro e z3 ⟨rfl, HZ⟩
    obtain ⟨x0, x1, x2, x3, x4⟩ := box_cells (blk_below HX.out HZ.out)
    obtain ⟨y0, y1, y2, y3, y4⟩ := box_cells (blk_below HY.out HZ.out)
    go_wp2_with fail
    clear x0 x1 x2 x3 x4 y0 y1 y2 y3 y4
    refine (spec_at_u32 (l := l4) (by have := HK.out.q4; omega) HK.out.e4 HK.out.w4 HK.out.h4 HB6.out O4.out _ HZ.out).mono ?_
    clear HZ
    rintro e z4 ⟨rfl, HZ⟩
    obtain ⟨x0, x1, x2, x3, x4⟩ := box_cells (blk_below HX.out HZ.out)
    obtain ⟨y0, y1, y2, y3, y4⟩ := box_cells (blk_below HY.out HZ.out)
    go_wp2_with fail
    clear x0 x1 x2 x3 x4 y0 y1 y2 y3 y4
    go_returns
    exact ⟨rfl, HB6.out.trans (HZ.out.mono HB6.out.size)⟩

end Go.Proofs.Ytnembmpjnlipeaa.So
