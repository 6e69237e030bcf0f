/- The program's Sorted: its five lists, appended onto nothing and sorted. -/
import Derived.Test.YtnembmpjnlipeaaApp
import Derived.Test.YtnembmpjnlipeaaSortStr
import Derived.Test.YtnembmpjnlipeaaSortI64
import Derived.Test.YtnembmpjnlipeaaSortU64
import Derived.Test.YtnembmpjnlipeaaSortI32
import Derived.Test.YtnembmpjnlipeaaSortU32
import Derived.Deep.RegionHeld3
import Derived.Deep.DeepCutAuto
import Derived.Outline
namespace Go.Proofs.Ytnembmpjnlipeaa.So
open Go.RowKit Go.Maps Go.Lib
set_option linter.unusedVariables false

theorem info9 : (Try.prog.info? 9).map (fun i => (i.zero, i.size, i.bytes)) = some (some (.string ByteArray.empty), 1, 16) := by kernel_rfl
theorem info2 : (Try.prog.info? 2).map (fun i => (i.zero, i.size, i.bytes)) = some (some (.int .i64 0), 1, 8) := by kernel_rfl
theorem info34 : (Try.prog.info? 34).map (fun i => (i.zero, i.size, i.bytes)) = some (some (.int .u64 0), 1, 8) := by kernel_rfl
theorem info21 : (Try.prog.info? 21).map (fun i => (i.zero, i.size, i.bytes)) = some (some (.int .i32 0), 1, 4) := by kernel_rfl
theorem info37 : (Try.prog.info? 37).map (fun i => (i.zero, i.size, i.bytes)) = some (some (.int .u32 0), 1, 4) := by kernel_rfl

/-- The five lists that came in: their slices in the world, their lists. -/
structure In5 (w : World) (A0 A1 A2 A3 A4 : Option Addr) (n0 n1 n2 n3 n4 c0 c1 c2 c3 c4 : Nat) (l0 : List (List UInt8)) (l1 l2 l3 l4 : List Int) : Prop where
  h0 : HoldsE encStr w A0 l0
  h1 : HoldsE (Value.int .i64) w A1 l1
  h2 : HoldsE (Value.int .u64) w A2 l2
  h3 : HoldsE (Value.int .i32) w A3 l3
  h4 : HoldsE (Value.int .u32) w A4 l4
  e0 : l0.length = n0
  e1 : l1.length = n1
  e2 : l2.length = n2
  e3 : l3.length = n3
  e4 : l4.length = n4
  m0 : n0 ≤ 1000
  m1 : n1 ≤ 1000
  m2 : n2 ≤ 1000
  m3 : n3 ≤ 1000
  m4 : n4 ≤ 1000
  z0 : A0 = none → c0 = 0
  z1 : A1 = none → c1 = 0
  z2 : A2 = none → c2 = 0
  z3 : A3 = none → c3 = 0
  z4 : A4 = none → c4 = 0

theorem In5.below {w w1 : World} {A0 A1 A2 A3 A4 : Option Addr} {n0 n1 n2 n3 n4 c0 c1 c2 c3 c4 : Nat} {l0 : List (List UInt8)} {l1 l2 l3 l4 : List Int} (h : In5 w A0 A1 A2 A3 A4 n0 n1 n2 n3 n4 c0 c1 c2 c3 c4 l0 l1 l2 l3 l4) (hb : Below w.heap.size w w1) : In5 w1 A0 A1 A2 A3 A4 n0 n1 n2 n3 n4 c0 c1 c2 c3 c4 l0 l1 l2 l3 l4 :=
  { h with h0 := h.h0.below hb, h1 := h.h1.below hb, h2 := h.h2.below hb, h3 := h.h3.below hb, h4 := h.h4.below hb }

theorem grow_next {w Y X w1 : World} (h : Below w.heap.size w Y) (hb : Below X.heap.size X w1) (hX : Below Y.heap.size Y X) : Below w.heap.size w w1 :=
  (h.trans (hX.mono h.size)).trans (hb.mono (Nat.le_trans h.size hX.size))

theorem below_next {w X w1 : World} (h : Below w.heap.size w X) (hb : Below X.heap.size X w1) : Below w.heap.size w w1 := h.trans (hb.mono h.size)

/-- What stands behind the five appends: the rows are the call's own, their slices lie in a block. -/
def Laid5 (w : World) (g : Nat) (n0 n1 n2 n3 n4 : Nat) (l0 : List (List UInt8)) (l1 l2 l3 l4 : List Int) (wc : World) : Prop :=
  ∃ (B0 B1 B2 B3 B4 : Option Addr) (d0 d1 d2 d3 d4 : Nat), w.heap.size + 1 < g ∧ wc.heap[g]? = some (.cells #[.slice B0 n0 d0, .slice B1 n1 d1, .slice B2 n2 d2, .slice B3 n3 d3, .slice B4 n4 d4] 28 (0, 0)) ∧
    wc.ownsRow (w.heap.size + 2) 9 1 (.slice B0 n0 d0) n0 (l0.map encStr) ∧ wc.ownsRow (w.heap.size + 2) 2 1 (.slice B1 n1 d1) n1 (l1.map (Value.int .i64)) ∧ wc.ownsRow (w.heap.size + 2) 34 1 (.slice B2 n2 d2) n2 (l2.map (Value.int .u64)) ∧
    wc.ownsRow (w.heap.size + 2) 21 1 (.slice B3 n3 d3) n3 (l3.map (Value.int .i32)) ∧ wc.ownsRow (w.heap.size + 2) 37 1 (.slice B4 n4 d4) n4 (l4.map (Value.int .u32)) ∧ Below w.heap.size w wc ∧
    wc.heap[w.heap.size + 1]? = some (.cells #[.slice none 0 0, .slice none 0 0, .slice none 0 0, .slice none 0 0, .slice none 0 0] 28 (0, 0))

theorem base_le {b : Nat} {W X : World} (h : b + 2 ≤ W.heap.size) (hb : Below W.heap.size W X) : b + 2 ≤ X.heap.size := Nat.le_trans h hb.size

def Box5 (b : Nat) (A0 A1 A2 A3 A4 : Option Addr) (n0 n1 n2 n3 n4 c0 c1 c2 c3 c4 : Nat) (w : World) : Prop := w.cell? ⟨b, 0, none⟩ = some (.slice A0 n0 c0) ∧ w.cell? ⟨b, 1, none⟩ = some (.slice A1 n1 c1) ∧ w.cell? ⟨b, 2, none⟩ = some (.slice A2 n2 c2) ∧ w.cell? ⟨b, 3, none⟩ = some (.slice A3 n3 c3) ∧ w.cell? ⟨b, 4, none⟩ = some (.slice A4 n4 c4)

theorem cell_below {w w1 : World} (hb : Below w.heap.size w w1) {a : Addr} {v : Value} (hc : w.cell? a = some v) : w1.cell? a = some v := (hb.cell (World.block_lt_of_cell? w a hc)).trans hc

theorem box_below {b : Nat} {A0 A1 A2 A3 A4 : Option Addr} {n0 n1 n2 n3 n4 c0 c1 c2 c3 c4 : Nat} {w w1 : World} (h : Box5 b A0 A1 A2 A3 A4 n0 n1 n2 n3 n4 c0 c1 c2 c3 c4 w) (hb : Below w.heap.size w w1) : Box5 b A0 A1 A2 A3 A4 n0 n1 n2 n3 n4 c0 c1 c2 c3 c4 w1 :=
  ⟨cell_below hb h.1, cell_below hb h.2.1, cell_below hb h.2.2.1, cell_below hb h.2.2.2.1, cell_below hb h.2.2.2.2⟩

theorem box_new (w : World) (A0 A1 A2 A3 A4 : Option Addr) (n0 n1 n2 n3 n4 c0 c1 c2 c3 c4 : Nat) {o : Obj} : Box5 w.heap.size A0 A1 A2 A3 A4 n0 n1 n2 n3 n4 c0 c1 c2 c3 c4 ((w.alloc (.cells #[.slice A0 n0 c0, .slice A1 n1 c1, .slice A2 n2 c2, .slice A3 n3 c3, .slice A4 n4 c4] 28)).alloc o) := by
  unfold Box5
  simp

theorem out_new (w : World) (o : Obj) {cs : Array Value} : ((w.alloc o).alloc (.cells cs 28)).heap[w.heap.size + 1]? = some (.cells cs 28 (0, 0)) := by
  have := heap_alloc_new (w.alloc o) (.cells cs 28)
  simpa using this

theorem keep_cell {X w1 : World} (hb : Below X.heap.size X w1) : ∀ a : Addr, (X.cell? a).isSome = true → w1.cell? a = X.cell? a := fun a h => by
  obtain ⟨v, hv⟩ := Option.isSome_iff_exists.1 h
  exact hb.cell (World.block_lt_of_cell? X a hv)
theorem keep_frozen {X w1 : World} (hb : Below X.heap.size X w1) : ∀ a : Addr, (X.cell? a).isSome = true → w1.frozen? a = X.frozen? a := fun a h => by
  obtain ⟨v, hv⟩ := Option.isSome_iff_exists.1 h
  exact hb.frozen (World.block_lt_of_cell? X a hv)

theorem set_grown (w : World) (g o : Nat) (u : Value) : w.grownBy (w.setCell ⟨g, o, none⟩ u) (some g) :=
  ⟨rfl, rfl, rfl, by simp, fun j _ hj => heap_setCell_other w ⟨g, o, none⟩ j _ (fun e => hj (by simp [e]))⟩

theorem grown_two {a b c : World} {r : Option Nat} (h : a.grownBy b r) (k : b.grownBy c r) : a.grownBy c r :=
  ⟨k.os.trans h.os, k.tape.trans h.tape, k.output.trans h.output, Nat.le_trans h.size k.size, fun i hi hne => (k.block i (Nat.lt_of_lt_of_le hi h.size) hne).trans (h.block i hi hne)⟩

theorem out_cells {w : World} {g : Nat} (h : w.heap[g]? = some (.cells #[.slice none 0 0, .slice none 0 0, .slice none 0 0, .slice none 0 0, .slice none 0 0] 28 (0, 0))) :
    w.cell? ⟨g, 0, none⟩ = some (.slice none 0 0) ∧ w.cell? ⟨g, 1, none⟩ = some (.slice none 0 0) ∧ w.cell? ⟨g, 2, none⟩ = some (.slice none 0 0) ∧ w.cell? ⟨g, 3, none⟩ = some (.slice none 0 0) ∧ w.cell? ⟨g, 4, none⟩ = some (.slice none 0 0) ∧ w.frozen? ⟨g, 0, none⟩ = false ∧ w.frozen? ⟨g, 1, none⟩ = false ∧ w.frozen? ⟨g, 2, none⟩ = false ∧ w.frozen? ⟨g, 3, none⟩ = false ∧ w.frozen? ⟨g, 4, none⟩ = false := by
  refine ⟨?_, ?_, ?_, ?_, ?_, ?_, ?_, ?_, ?_, ?_⟩ <;> simp [World.cell?, World.frozen?, h]

theorem laid_store {w w4 : World} {B0 B1 B2 B3 B4 : Option Addr} {n0 n1 n2 n3 n4 d0 d1 d2 d3 d4 : Nat} {l0 : List (List UInt8)} {l1 l2 l3 l4 : List Int} {g : Nat} (hg : w4.heap[g]? = some (.cells #[.slice none 0 0, .slice none 0 0, .slice none 0 0, .slice none 0 0, .slice none 0 0] 28 (0, 0))) (hlt : w.heap.size + 1 < g) (r0 : w4.ownsRow (w.heap.size + 2) 9 1 (.slice B0 n0 d0) n0 (l0.map encStr)) (r1 : w4.ownsRow (w.heap.size + 2) 2 1 (.slice B1 n1 d1) n1 (l1.map (Value.int .i64))) (r2 : w4.ownsRow (w.heap.size + 2) 34 1 (.slice B2 n2 d2) n2 (l2.map (Value.int .u64))) (r3 : w4.ownsRow (w.heap.size + 2) 21 1 (.slice B3 n3 d3) n3 (l3.map (Value.int .i32))) (r4 : w4.ownsRow (w.heap.size + 2) 37 1 (.slice B4 n4 d4) n4 (l4.map (Value.int .u32))) (hb : Below w.heap.size w w4) (ho : w4.heap[w.heap.size + 1]? = some (.cells #[.slice none 0 0, .slice none 0 0, .slice none 0 0, .slice none 0 0, .slice none 0 0] 28 (0, 0))) :
    Laid5 w g n0 n1 n2 n3 n4 l0 l1 l2 l3 l4 (((((w4.setCell ⟨g, 0, none⟩ (.slice B0 n0 d0)).setCell ⟨g, 1, none⟩ (.slice B1 n1 d1)).setCell ⟨g, 2, none⟩ (.slice B2 n2 d2)).setCell ⟨g, 3, none⟩ (.slice B3 n3 d3)).setCell ⟨g, 4, none⟩ (.slice B4 n4 d4)) := by
  have hgr := grown_two (grown_two (grown_two (grown_two (set_grown w4 g 0 (.slice B0 n0 d0)) (set_grown _ g 1 (.slice B1 n1 d1))) (set_grown _ g 2 (.slice B2 n2 d2))) (set_grown _ g 3 (.slice B3 n3 d3))) (set_grown _ g 4 (.slice B4 n4 d4))
  have h1 := heap_setCell_same w4 g 0 _ _ (.slice B0 n0 d0) hg
  have h2 := heap_setCell_same _ g 1 _ _ (.slice B1 n1 d1) h1
  have h3 := heap_setCell_same _ g 2 _ _ (.slice B2 n2 d2) h2
  have h4 := heap_setCell_same _ g 3 _ _ (.slice B3 n3 d3) h3
  have h5 := heap_setCell_same _ g 4 _ _ (.slice B4 n4 d4) h4
  have ho' := (hgr.block (w.heap.size + 1) (Array.getElem?_eq_some_iff.1 ho).1 (by simp; omega)).trans ho
  exact ⟨B0, B1, B2, B3, B4, d0, d1, d2, d3, d4, hlt, by simpa using h5, r0.kept hgr (.inr (blk_ne r0 hg (by decide))), r1.kept hgr (.inr (blk_ne r1 hg (by decide))), r2.kept hgr (.inr (blk_ne r2 hg (by decide))), r3.kept hgr (.inr (blk_ne r3 hg (by decide))), r4.kept hgr (.inr (blk_ne r4 hg (by decide))), hb.grown hgr hb.size (fun k hk => by cases hk; omega), ho'⟩

theorem laid_alloc {w w4 : World} {B0 B1 B2 B3 B4 : Option Addr} {n0 n1 n2 n3 n4 d0 d1 d2 d3 d4 : Nat} {l0 : List (List UInt8)} {l1 l2 l3 l4 : List Int} (hlt : w.heap.size + 1 < w4.heap.size) (r0 : w4.ownsRow (w.heap.size + 2) 9 1 (.slice B0 n0 d0) n0 (l0.map encStr)) (r1 : w4.ownsRow (w.heap.size + 2) 2 1 (.slice B1 n1 d1) n1 (l1.map (Value.int .i64))) (r2 : w4.ownsRow (w.heap.size + 2) 34 1 (.slice B2 n2 d2) n2 (l2.map (Value.int .u64))) (r3 : w4.ownsRow (w.heap.size + 2) 21 1 (.slice B3 n3 d3) n3 (l3.map (Value.int .i32))) (r4 : w4.ownsRow (w.heap.size + 2) 37 1 (.slice B4 n4 d4) n4 (l4.map (Value.int .u32))) (hb : Below w.heap.size w w4) (ho : w4.heap[w.heap.size + 1]? = some (.cells #[.slice none 0 0, .slice none 0 0, .slice none 0 0, .slice none 0 0, .slice none 0 0] 28 (0, 0))) :
    Laid5 w w4.heap.size n0 n1 n2 n3 n4 l0 l1 l2 l3 l4 (w4.alloc (.cells #[.slice B0 n0 d0, .slice B1 n1 d1, .slice B2 n2 d2, .slice B3 n3 d3, .slice B4 n4 d4] 28)) :=
  have hA : Below w4.heap.size w4 (w4.alloc (.cells #[.slice B0 n0 d0, .slice B1 n1 d1, .slice B2 n2 d2, .slice B3 n3 d3, .slice B4 n4 d4] 28)) := (Below.refl _ _).alloc (Nat.le_refl _) _
  ⟨B0, B1, B2, B3, B4, d0, d1, d2, d3, d4, hlt, heap_alloc_new w4 _, r0.alloc _, r1.alloc _, r2.alloc _, r3.alloc _, r4.alloc _, hb.alloc hb.size _, blk_below ho hA⟩

/-- A list that has been sorted. -/
def Out {α : Type} (enc : α → Value) (lt : α → α → Bool) (A : Option Addr) (l : List α) (w : World) : Prop :=
  ∃ s : List α, l.Perm s ∧ (∀ i j (h : j < s.length) (h' : i < j), lt s[j] (s[i]'(by omega)) = false) ∧ HoldsE enc w A s

/-- What stands besides the rows. -/
structure Rest5 (w : World) (g : Nat) (cs : Array Value) (wx : World) : Prop where
  blk : wx.heap[g]? = some (.cells cs 28 (0, 0))
  out : wx.heap[w.heap.size + 1]? = some (.cells #[.slice none 0 0, .slice none 0 0, .slice none 0 0, .slice none 0 0, .slice none 0 0] 28 (0, 0))
  bel : Below w.heap.size w wx

theorem own_map (A : Option Addr) (n d : Nat) : (Value.slice A n d).ownBlock = A.map (·.block) := by cases A <;> rfl

theorem map_ne {w : World} {b b' e e' n n' d d' : Nat} {A A' : Option Addr} {xs xs' : List Value} (h : w.ownsRow b e 1 (.slice A n d) n xs) (h' : w.ownsRow b' e' 1 (.slice A' n' d') n' xs') (hne : e ≠ e') : A.map (·.block) = none ∨ A.map (·.block) ≠ A'.map (·.block) := by
  have := type_ne h h' hne
  rwa [own_map, own_map] at this

theorem Rest5.next {w wx wy : World} {g e n d : Nat} {cs : Array Value} {A : Option Addr} {xs : List Value} (h : Rest5 w g cs wx) (r : wx.ownsRow (w.heap.size + 2) e 1 (.slice A n d) n xs) (he : e ≠ 28) (hg : wx.grownBy wy (A.map (·.block))) : Rest5 w g cs wy := by
  have n1 := blk_ne r h.blk he
  have n2 := blk_ne r h.out he
  rw [own_map] at n1 n2
  refine ⟨(hg.block g (Array.getElem?_eq_some_iff.1 h.blk).1 (fun e => n1 e.symm)).trans h.blk, (hg.block _ (Array.getElem?_eq_some_iff.1 h.out).1 (fun e => n2 e.symm)).trans h.out, h.bel.grown hg h.bel.size (fun k hk => ?_)⟩
  have := (r.lt k (by rw [own_map]; exact hk)).1
  omega

theorem row_next {wx wy : World} {b e b' e' n d n' d' : Nat} {A A' : Option Addr} {xs xs' : List Value} (h : wx.ownsRow b e 1 (.slice A n d) n xs) (r : wx.ownsRow b' e' 1 (.slice A' n' d') n' xs') (hne : e ≠ e') (hg : wx.grownBy wy (A'.map (·.block))) : wy.ownsRow b e 1 (.slice A n d) n xs :=
  h.kept hg (by rw [own_map]; exact map_ne h r hne)

theorem out_next {α : Type} {enc : α → Value} {lt : α → α → Bool} {wx wy : World} {A : Option Addr} {row : Option Nat} {l : List α} (h : Out enc lt A l wx) (hne : A.map (·.block) = none ∨ A.map (·.block) ≠ row) (hg : wx.grownBy wy row) : Out enc lt A l wy := by
  obtain ⟨s, h1, h2, h3⟩ := h
  refine ⟨s, h1, h2, fun h0 => ?_⟩
  obtain ⟨g, off, rfl, hc⟩ := h3 h0
  refine ⟨g, off, rfl, fun j hj => ?_⟩
  have hb := World.block_lt_of_cell? wx _ (hc j hj)
  rw [← hc j hj]
  refine World.cell?_of_block (hg.block g hb ?_)
  rcases hne with h | h
  · simp at h
  · exact h

theorem box_cells {wx : World} {g : Nat} {v0 v1 v2 v3 v4 : Value} (h : wx.heap[g]? = some (.cells #[v0, v1, v2, v3, v4] 28 (0, 0))) : wx.cell? ⟨g, 0, none⟩ = some v0 ∧ wx.cell? ⟨g, 1, none⟩ = some v1 ∧ wx.cell? ⟨g, 2, none⟩ = some v2 ∧ wx.cell? ⟨g, 3, none⟩ = some v3 ∧ wx.cell? ⟨g, 4, none⟩ = some v4 := by
  refine ⟨?_, ?_, ?_, ?_, ?_⟩ <;> simp [World.cell?, h]

/-- What the program's Sorted hands back. -/
def Sorted5 (n0 n1 n2 n3 n4 : Nat) (l0 : List (List UInt8)) (l1 l2 l3 l4 : List Int) (w : World) (e : Ending) (w' : World) : Prop :=
  ∃ (B0 B1 B2 B3 B4 : Option Addr) (d0 d1 d2 d3 d4 : Nat), e = .returned (.agg #[.slice B0 n0 d0, .slice B1 n1 d1, .slice B2 n2 d2, .slice B3 n3 d3, .slice B4 n4 d4]) ∧ Out encStr Sort.ltStr B0 l0 w' ∧ Out (Value.int .i64) Sort.ltInt B1 l1 w' ∧ Out (Value.int .u64) Sort.ltInt B2 l2 w' ∧ Out (Value.int .i32) Sort.ltInt B3 l3 w' ∧ Out (Value.int .u32) Sort.ltInt B4 l4 w' ∧ Below w.heap.size w w'

set_option maxHeartbeats 4000000 in
set_option maxRecDepth 100000 in
theorem impl_sorted (w : World) (A0 A1 A2 A3 A4 : Option Addr) (n0 n1 n2 n3 n4 c0 c1 c2 c3 c4 : Nat) (l0 : List (List UInt8)) (l1 l2 l3 l4 : List Int) (h : In5 w A0 A1 A2 A3 A4 n0 n1 n2 n3 n4 c0 c1 c2 c3 c4 l0 l1 l2 l3 l4) :
    Calls Try.prog 5 #[.agg #[.slice A0 n0 c0, .slice A1 n1 c1, .slice A2 n2 c2, .slice A3 n3 c3, .slice A4 n4 c4]] w (Sorted5 n0 n1 n2 n3 n4 l0 l1 l2 l3 l4 w) := by
  have HI := Lib.hid h
  clear h
  go_enter Try.func5, Try.ntmps5
  go_upto_region 1 with (fail)
  generalize hW : (w.alloc (.cells #[.slice A0 n0 c0, .slice A1 n1 c1, .slice A2 n2 c2, .slice A3 n3 c3, .slice A4 n4 c4] 28)).alloc (.cells #[.slice none 0 0, .slice none 0 0, .slice none 0 0, .slice none 0 0, .slice none 0 0] 28) = W
  have HWB : Hid (Below w.heap.size w W) := by subst hW; exact ((Below.refl _ _).alloc (Nat.le_refl _) _).alloc (by simp) _
  have HS : Hid (w.heap.size + 2 ≤ W.heap.size) := by subst hW; unfold Hid; simp
  have HX : Hid (Box5 w.heap.size A0 A1 A2 A3 A4 n0 n1 n2 n3 n4 c0 c1 c2 c3 c4 W) := by subst hW; exact box_new w _ _ _ _ _ _ _ _ _ _ _ _ _ _ _
  have HOUT : Hid (W.heap[w.heap.size + 1]? = some (.cells #[.slice none 0 0, .slice none 0 0, .slice none 0 0, .slice none 0 0, .slice none 0 0] 28 (0, 0))) := by subst hW; exact out_new w _
  replace HI := Lib.hid (HI.out.below HWB.out)
  clear hW
  go_cut [3] (fun t3 wc => ∃ g3, t3 = .pointer (some ⟨g3, 0, none⟩) ∧ Hid (Laid5 w g3 n0 n1 n2 n3 n4 l0 l1 l2 l3 l4 wc))
  case first =>
    obtain ⟨x0, x1, x2, x3, x4⟩ := HX.out
    have HB := Lib.hid (Below.refl W.heap.size W)
    go_region_held3 (fun w' => w'.cell? ⟨w.heap.size, 0, none⟩ = some (.slice A0 n0 c0) ∧ w'.cell? ⟨w.heap.size, 1, none⟩ = some (.slice A1 n1 c1) ∧ w'.cell? ⟨w.heap.size, 2, none⟩ = some (.slice A2 n2 c2) ∧ w'.cell? ⟨w.heap.size, 3, none⟩ = some (.slice A3 n3 c3) ∧ w'.cell? ⟨w.heap.size, 4, none⟩ = some (.slice A4 n4 c4))
      (first | go_keep | (have hq := HB.out; have hq' := hq.size; exact box_below HX.out (by go_grown)))
      (first
        | (refine step_append_new encStr (w.heap.size + 2) rfl (.tmp 5) 22 9 (by rfl) (.string ByteArray.empty) 16 rfl (by decide) Try.underlying22 info9 (fun _ => rfl) A0 n0 c0 l0 (by rfl) HI.out.e0 (by have := HI.out.m0; omega) (HI.out.h0.below (by have hq := HB.out; have hq' := hq.size; go_grown)) HI.out.z0 (base_le HS.out (by have hq := HB.out; have hq' := hq.size; go_grown)) ?_; intro B0 d0 w0 HR0 HN0; replace HB := Lib.hid (below_next (w := W) (by have hq := HB.out; have hq' := hq.size; go_grown) HN0.out); have hz0 := HB.out.size; have KB0 := HN0; have hk0 := keep_cell HN0.out; have hf0 := keep_frozen HN0.out)
        | (refine step_append_new (Value.int .i64) (w.heap.size + 2) rfl (.tmp 8) 23 2 (by rfl) (.int .i64 0) 8 rfl (by decide) Try.underlying23 info2 (fun _ => rfl) A1 n1 c1 l1 (by rfl) HI.out.e1 (by have := HI.out.m1; omega) (HI.out.h1.below (by have hq := HB.out; have hq' := hq.size; go_grown)) HI.out.z1 (base_le HS.out (by have hq := HB.out; have hq' := hq.size; go_grown)) ?_; intro B1 d1 w1 HR1 HN1; replace HB := Lib.hid (below_next (w := W) (by have hq := HB.out; have hq' := hq.size; go_grown) HN1.out); have hz1 := HB.out.size; replace KB0 := Lib.hid (grow_next KB0.out HN1.out (by go_grown)); replace hk0 := keep_cell KB0.out; replace hf0 := keep_frozen KB0.out; have KB1 := HN1; have hk1 := keep_cell HN1.out; have hf1 := keep_frozen HN1.out)
        | (refine step_append_new (Value.int .u64) (w.heap.size + 2) rfl (.tmp 11) 24 34 (by rfl) (.int .u64 0) 8 rfl (by decide) Try.underlying24 info34 (fun _ => rfl) A2 n2 c2 l2 (by rfl) HI.out.e2 (by have := HI.out.m2; omega) (HI.out.h2.below (by have hq := HB.out; have hq' := hq.size; go_grown)) HI.out.z2 (base_le HS.out (by have hq := HB.out; have hq' := hq.size; go_grown)) ?_; intro B2 d2 w2 HR2 HN2; replace HB := Lib.hid (below_next (w := W) (by have hq := HB.out; have hq' := hq.size; go_grown) HN2.out); have hz2 := HB.out.size; replace KB0 := Lib.hid (grow_next KB0.out HN2.out (by go_grown)); replace hk0 := keep_cell KB0.out; replace hf0 := keep_frozen KB0.out; replace KB1 := Lib.hid (grow_next KB1.out HN2.out (by go_grown)); replace hk1 := keep_cell KB1.out; replace hf1 := keep_frozen KB1.out; have KB2 := HN2; have hk2 := keep_cell HN2.out; have hf2 := keep_frozen HN2.out)
        | (refine step_append_new (Value.int .i32) (w.heap.size + 2) rfl (.tmp 14) 25 21 (by rfl) (.int .i32 0) 4 rfl (by decide) Try.underlying25 info21 (fun _ => rfl) A3 n3 c3 l3 (by rfl) HI.out.e3 (by have := HI.out.m3; omega) (HI.out.h3.below (by have hq := HB.out; have hq' := hq.size; go_grown)) HI.out.z3 (base_le HS.out (by have hq := HB.out; have hq' := hq.size; go_grown)) ?_; intro B3 d3 w3 HR3 HN3; replace HB := Lib.hid (below_next (w := W) (by have hq := HB.out; have hq' := hq.size; go_grown) HN3.out); have hz3 := HB.out.size; replace KB0 := Lib.hid (grow_next KB0.out HN3.out (by go_grown)); replace hk0 := keep_cell KB0.out; replace hf0 := keep_frozen KB0.out; replace KB1 := Lib.hid (grow_next KB1.out HN3.out (by go_grown)); replace hk1 := keep_cell KB1.out; replace hf1 := keep_frozen KB1.out; replace KB2 := Lib.hid (grow_next KB2.out HN3.out (by go_grown)); replace hk2 := keep_cell KB2.out; replace hf2 := keep_frozen KB2.out; have KB3 := HN3; have hk3 := keep_cell HN3.out; have hf3 := keep_frozen HN3.out)
        | (refine step_append_new (Value.int .u32) (w.heap.size + 2) rfl (.tmp 17) 26 37 (by rfl) (.int .u32 0) 4 rfl (by decide) Try.underlying26 info37 (fun _ => rfl) A4 n4 c4 l4 (by rfl) HI.out.e4 (by have := HI.out.m4; omega) (HI.out.h4.below (by have hq := HB.out; have hq' := hq.size; go_grown)) HI.out.z4 (base_le HS.out (by have hq := HB.out; have hq' := hq.size; go_grown)) ?_; intro B4 d4 w4 HR4 HN4; replace HB := Lib.hid (below_next (w := W) (by have hq := HB.out; have hq' := hq.size; go_grown) HN4.out); have hz4 := HB.out.size; replace KB0 := Lib.hid (grow_next KB0.out HN4.out (by go_grown)); replace hk0 := keep_cell KB0.out; replace hf0 := keep_frozen KB0.out; replace KB1 := Lib.hid (grow_next KB1.out HN4.out (by go_grown)); replace hk1 := keep_cell KB1.out; replace hf1 := keep_frozen KB1.out; replace KB2 := Lib.hid (grow_next KB2.out HN4.out (by go_grown)); replace hk2 := keep_cell KB2.out; replace hf2 := keep_frozen KB2.out; replace KB3 := Lib.hid (grow_next KB3.out HN4.out (by go_grown)); replace hk3 := keep_cell KB3.out; replace hf3 := keep_frozen KB3.out; have KB4 := HN4; have hk4 := keep_cell HN4.out; have hf4 := keep_frozen HN4.out)
        | fail)
    all_goals go_wp2_with fail
    all_goals go_meet
    all_goals
      have r0 : w4.ownsRow (w.heap.size + 2) 9 1 (.slice B0 n0 d0) n0 (l0.map encStr) := by first | with_reducible exact kept_below HR0.out KB1.out | with_reducible exact kept_below (HR0.out.alloc _) KB1.out
      have r1 : w4.ownsRow (w.heap.size + 2) 2 1 (.slice B1 n1 d1) n1 (l1.map (Value.int .i64)) := by first | with_reducible exact kept_below HR1.out KB2.out | with_reducible exact kept_below (HR1.out.alloc _) KB2.out
      have r2 : w4.ownsRow (w.heap.size + 2) 34 1 (.slice B2 n2 d2) n2 (l2.map (Value.int .u64)) := by first | with_reducible exact kept_below HR2.out KB3.out | with_reducible exact kept_below (HR2.out.alloc _) KB3.out
      have r3 : w4.ownsRow (w.heap.size + 2) 21 1 (.slice B3 n3 d3) n3 (l3.map (Value.int .i32)) := by first | with_reducible exact kept_below HR3.out KB4.out | with_reducible exact kept_below (HR3.out.alloc _) KB4.out
      have hbw : Below w.heap.size w w4 := HWB.out.trans (HB.out.mono HWB.out.size)
      have hot := blk_below HOUT.out HB.out
      have hss := HS.out
      refine ⟨_, rfl, ?_⟩
      unfold Hid
      first
        | (with_reducible refine laid_alloc ?_ r0 r1 r2 r3 HR4.out hbw hot)
        | (with_reducible refine laid_store ?_ ?_ r0 r1 r2 r3 HR4.out hbw hot
           first
             | with_reducible exact blk_below (heap_alloc_new _ _) KB4.out
             | with_reducible exact blk_below (heap_alloc_new _ _) KB3.out
             | with_reducible exact blk_below (heap_alloc_new _ _) KB2.out
             | with_reducible exact blk_below (heap_alloc_new _ _) KB1.out
             | exact blk_below (w := (W.alloc _).drew) (heap_alloc_new W _) KB0.out)
      omega
  case rest =>
    obtain ⟨g3, rfl, HL⟩ := hcut
    obtain ⟨B0, B1, B2, B3, B4, d0, d1, d2, d3, d4, hlt, hblk, r0, r1, r2, r3, r4, hb, hout⟩ := HL.out
    have HQ := Lib.hid (Rest5.mk hblk hout hb)
    have hm := HI.out
    have M0 : n0 ≤ 100000 := by have := hm.m0; omega
    have M1 : n1 ≤ 100000 := by have := hm.m1; omega
    have M2 : n2 ≤ 100000 := by have := hm.m2; omega
    have M3 : n3 ≤ 100000 := by have := hm.m3; omega
    have M4 : n4 ≤ 100000 := by have := hm.m4; omega
    have N01 := Lib.hid (map_ne r0 r1 (by decide))
    have N02 := Lib.hid (map_ne r0 r2 (by decide))
    have N03 := Lib.hid (map_ne r0 r3 (by decide))
    have N04 := Lib.hid (map_ne r0 r4 (by decide))
    have N12 := Lib.hid (map_ne r1 r2 (by decide))
    have N13 := Lib.hid (map_ne r1 r3 (by decide))
    have N14 := Lib.hid (map_ne r1 r4 (by decide))
    have N23 := Lib.hid (map_ne r2 r3 (by decide))
    have N24 := Lib.hid (map_ne r2 r4 (by decide))
    have N34 := Lib.hid (map_ne r3 r4 (by decide))
    have R0 := Lib.hid r0
    have G0 : Hid (B0.map (·.block) = none ∨ B0.map (·.block) ≠ some (w.heap.size + 1)) := .inr (by have := blk_ne r0 hout (by decide); rwa [own_map] at this)
    have R1 := Lib.hid r1
    have G1 : Hid (B1.map (·.block) = none ∨ B1.map (·.block) ≠ some (w.heap.size + 1)) := .inr (by have := blk_ne r1 hout (by decide); rwa [own_map] at this)
    have R2 := Lib.hid r2
    have G2 : Hid (B2.map (·.block) = none ∨ B2.map (·.block) ≠ some (w.heap.size + 1)) := .inr (by have := blk_ne r2 hout (by decide); rwa [own_map] at this)
    have R3 := Lib.hid r3
    have G3 : Hid (B3.map (·.block) = none ∨ B3.map (·.block) ≠ some (w.heap.size + 1)) := .inr (by have := blk_ne r3 hout (by decide); rwa [own_map] at this)
    have R4 := Lib.hid r4
    have G4 : Hid (B4.map (·.block) = none ∨ B4.map (·.block) ≠ some (w.heap.size + 1)) := .inr (by have := blk_ne r4 hout (by decide); rwa [own_map] at this)
    clear HL hblk r0 r1 r2 r3 r4 hb hout hm HX HS HOUT HWB HI hlt
    obtain ⟨y0, y1, y2, y3, y4⟩ := box_cells HQ.out.blk
    go_wp2_with fail
    refine (sorts_str _ _ B0 n0 d0 l0 M0 R0.out).mono ?_
    rintro e w0 ⟨rfl, s0, p0, q0, hh0, hg0⟩
    have O0 : Hid (Out encStr Sort.ltStr B0 l0 w0) := ⟨s0, p0, q0, hh0⟩
    replace HQ := Lib.hid (HQ.out.next R0.out (by decide) hg0)
    replace R1 := Lib.hid (row_next R1.out R0.out (by decide) hg0)
    replace R2 := Lib.hid (row_next R2.out R0.out (by decide) hg0)
    replace R3 := Lib.hid (row_next R3.out R0.out (by decide) hg0)
    replace R4 := Lib.hid (row_next R4.out R0.out (by decide) hg0)
    clear y0 y1 y2 y3 y4 p0 q0 hh0 hg0 R0
    obtain ⟨y0, y1, y2, y3, y4⟩ := box_cells HQ.out.blk
    go_wp2_with fail
    refine (sorts_i64 _ _ B1 n1 d1 l1 M1 R1.out).mono ?_
    rintro e w1 ⟨rfl, s1, p1, q1, hh1, hg1⟩
    have O1 : Hid (Out (Value.int .i64) Sort.ltInt B1 l1 w1) := ⟨s1, p1, q1, hh1⟩
    replace HQ := Lib.hid (HQ.out.next R1.out (by decide) hg1)
    replace O0 := Lib.hid (out_next O0.out N01.out hg1)
    replace R2 := Lib.hid (row_next R2.out R1.out (by decide) hg1)
    replace R3 := Lib.hid (row_next R3.out R1.out (by decide) hg1)
    replace R4 := Lib.hid (row_next R4.out R1.out (by decide) hg1)
    clear y0 y1 y2 y3 y4 p1 q1 hh1 hg1 R1
    obtain ⟨y0, y1, y2, y3, y4⟩ := box_cells HQ.out.blk
    go_wp2_with fail
    refine (sorts_u64 _ _ B2 n2 d2 l2 M2 R2.out).mono ?_
    rintro e w2 ⟨rfl, s2, p2, q2, hh2, hg2⟩
    have O2 : Hid (Out (Value.int .u64) Sort.ltInt B2 l2 w2) := ⟨s2, p2, q2, hh2⟩
    replace HQ := Lib.hid (HQ.out.next R2.out (by decide) hg2)
    replace O0 := Lib.hid (out_next O0.out N02.out hg2)
    replace O1 := Lib.hid (out_next O1.out N12.out hg2)
    replace R3 := Lib.hid (row_next R3.out R2.out (by decide) hg2)
    replace R4 := Lib.hid (row_next R4.out R2.out (by decide) hg2)
    clear y0 y1 y2 y3 y4 p2 q2 hh2 hg2 R2
    obtain ⟨y0, y1, y2, y3, y4⟩ := box_cells HQ.out.blk
    go_wp2_with fail
    refine (sorts_i32 _ _ B3 n3 d3 l3 M3 R3.out).mono ?_
    rintro e w3 ⟨rfl, s3, p3, q3, hh3, hg3⟩
    have O3 : Hid (Out (Value.int .i32) Sort.ltInt B3 l3 w3) := ⟨s3, p3, q3, hh3⟩
    replace HQ := Lib.hid (HQ.out.next R3.out (by decide) hg3)
    replace O0 := Lib.hid (out_next O0.out N03.out hg3)
    replace O1 := Lib.hid (out_next O1.out N13.out hg3)
    replace O2 := Lib.hid (out_next O2.out N23.out hg3)
    replace R4 := Lib.hid (row_next R4.out R3.out (by decide) hg3)
    clear y0 y1 y2 y3 y4 p3 q3 hh3 hg3 R3
    obtain ⟨y0, y1, y2, y3, y4⟩ := box_cells HQ.out.blk
    go_wp2_with fail
    refine (sorts_u32 _ _ B4 n4 d4 l4 M4 R4.out).mono ?_
    rintro e w4 ⟨rfl, s4, p4, q4, hh4, hg4⟩
    have O4 : Hid (Out (Value.int .u32) Sort.ltInt B4 l4 w4) := ⟨s4, p4, q4, hh4⟩
    replace HQ := Lib.hid (HQ.out.next R4.out (by decide) hg4)
    replace O0 := Lib.hid (out_next O0.out N04.out hg4)
    replace O1 := Lib.hid (out_next O1.out N14.out hg4)
    replace O2 := Lib.hid (out_next O2.out N24.out hg4)
    replace O3 := Lib.hid (out_next O3.out N34.out hg4)
    clear y0 y1 y2 y3 y4 p4 q4 hh4 hg4 R4
    obtain ⟨y0, y1, y2, y3, y4⟩ := box_cells HQ.out.blk
    obtain ⟨z0, z1, z2, z3, z4, f0, f1, f2, f3, f4⟩ := out_cells HQ.out.out
    go_wp2_with fail
    have hgr := grown_two (grown_two (grown_two (grown_two (set_grown w4 (w.heap.size + 1) 0 (.slice B0 n0 d0)) (set_grown _ (w.heap.size + 1) 1 (.slice B1 n1 d1))) (set_grown _ (w.heap.size + 1) 2 (.slice B2 n2 d2))) (set_grown _ (w.heap.size + 1) 3 (.slice B3 n3 d3))) (set_grown _ (w.heap.size + 1) 4 (.slice B4 n4 d4))
    have t1 := heap_setCell_same w4 (w.heap.size + 1) 0 _ _ (.slice B0 n0 d0) HQ.out.out
    have t2 := heap_setCell_same _ (w.heap.size + 1) 1 _ _ (.slice B1 n1 d1) t1
    have t3 := heap_setCell_same _ (w.heap.size + 1) 2 _ _ (.slice B2 n2 d2) t2
    have t4 := heap_setCell_same _ (w.heap.size + 1) 3 _ _ (.slice B3 n3 d3) t3
    have t5 := heap_setCell_same _ (w.heap.size + 1) 4 _ _ (.slice B4 n4 d4) t4
    obtain ⟨v0, v1, v2, v3, v4⟩ := box_cells (v0 := .slice B0 n0 d0) (v1 := .slice B1 n1 d1) (v2 := .slice B2 n2 d2) (v3 := .slice B3 n3 d3) (v4 := .slice B4 n4 d4) (by simpa using t5)
    clear t1 t2 t3 t4 t5 y0 y1 y2 y3 y4 z0 z1 z2 z3 z4 f0 f1 f2 f3 f4
    generalize (((((w4.setCell ⟨w.heap.size + 1, 0, none⟩ (.slice B0 n0 d0)).setCell ⟨w.heap.size + 1, 1, none⟩ (.slice B1 n1 d1)).setCell ⟨w.heap.size + 1, 2, none⟩ (.slice B2 n2 d2)).setCell ⟨w.heap.size + 1, 3, none⟩ (.slice B3 n3 d3)).setCell ⟨w.heap.size + 1, 4, none⟩ (.slice B4 n4 d4)) = V at *
    refine bodyPost_ret (v := .agg #[.slice B0 n0 d0, .slice B1 n1 d1, .slice B2 n2 d2, .slice B3 n3 d3, .slice B4 n4 d4]) (by simp [results, Try.results5, v0, v1, v2, v3, v4, go_sem]) rfl ?_
    exact ⟨B0, B1, B2, B3, B4, d0, d1, d2, d3, d4, rfl, out_next O0.out G0.out hgr, out_next O1.out G1.out hgr, out_next O2.out G2.out hgr, out_next O3.out G3.out hgr, out_next O4.out G4.out hgr, HQ.out.bel.grown hgr HQ.out.bel.size (fun k hk => by cases hk; omega)⟩

end Go.Proofs.Ytnembmpjnlipeaa.So
