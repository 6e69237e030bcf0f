/- The fields of which the law speaks: field. -/
import Derived.Test.YtobponaenabpgaaSkAid
import Derived.Deep.DrawnRows
import Derived.Test.YtobponaenabpgaaSkTake
namespace Go.Proofs.Ytobponaenabpgaa.Rd
open Go.ChangeShapes Go.WideShapes Go.ChangeAt Go.RowKit Sv Go.Proofs.YtobponaenabpgaaW Go.Proofs.YtobponaenabpgaaW.PrintWords
set_option linter.unusedVariables false
set_option linter.unusedSimpArgs false
attribute [local go_sem ↓] Go.wp_at_zero Go.wp_at_succ

/-- The field's box, the answer's, and what was there. -/
structure Bx (w : World) (num kind n : Int) (ba : Option Addr) (bl bc : Nat) (ia : Option Addr) (il ic : Nat) (wr : World) : Prop where
  box : wr.heap[w.heap.size]? = some (.cells #[.int .i64 num, .int .i64 kind, .int .u64 n, .slice ba bl bc, .slice ia il ic] 38 (0, 0))
  out : wr.heap[w.heap.size + 1]? = some (.cells #[.int .i64 0, .int .i64 0, .int .u64 0, .slice none 0 0, .slice none 0 0] 38 (0, 0))
  bel : Below w.heap.size w wr

theorem Bx.cells {w wr : World} {num kind n : Int} {ba : Option Addr} {bl bc : Nat} {ia : Option Addr} {il ic : Nat} (h : Bx w num kind n ba bl bc ia il ic wr) :
    wr.cell? ⟨w.heap.size, 0, none⟩ = some (.int .i64 num) ∧ wr.cell? ⟨w.heap.size, 1, none⟩ = some (.int .i64 kind) ∧ wr.cell? ⟨w.heap.size, 2, none⟩ = some (.int .u64 n) ∧ wr.cell? ⟨w.heap.size, 3, none⟩ = some (.slice ba bl bc) ∧ wr.cell? ⟨w.heap.size, 4, none⟩ = some (.slice ia il ic) ∧ (∀ i, wr.frozen? ⟨w.heap.size, i, none⟩ = false) ∧ w.heap.size + 1 < wr.heap.size :=
  ⟨(blk_cell h.box 0).trans rfl, (blk_cell h.box 1).trans rfl, (blk_cell h.box 2).trans rfl, (blk_cell h.box 3).trans rfl, (blk_cell h.box 4).trans rfl, fun i => blk_frozen h.box i, blk_lt h.out⟩

theorem Bx.new (w : World) (num kind n : Int) (ba : Option Addr) (bl bc : Nat) (ia : Option Addr) (il ic : Nat) : Bx w num kind n ba bl bc ia il ic ((w.alloc (.cells #[.int .i64 num, .int .i64 kind, .int .u64 n, .slice ba bl bc, .slice ia il ic] 38)).alloc (.cells #[.int .i64 0, .int .i64 0, .int .u64 0, .slice none 0 0, .slice none 0 0] 38)) := by
  have h1 := heap_alloc_new w (.cells #[.int .i64 num, .int .i64 kind, .int .u64 n, .slice ba bl bc, .slice ia il ic] 38)
  refine ⟨blk_alloc h1 _, ?_, (wa_below w _).alloc (by simp) _⟩
  have := heap_alloc_new (w.alloc (.cells #[.int .i64 num, .int .i64 kind, .int .u64 n, .slice ba bl bc, .slice ia il ic] 38)) (.cells #[.int .i64 0, .int .i64 0, .int .u64 0, .slice none 0 0, .slice none 0 0] 38)
  simpa using this

theorem Bx.set0 {w wr : World} {num kind n : Int} {ba : Option Addr} {bl bc : Nat} {ia : Option Addr} {il ic : Nat} (h : Bx w num kind n ba bl bc ia il ic wr) (x : Int) : Bx w x kind n ba bl bc ia il ic (wr.setCell ⟨w.heap.size, 0, none⟩ (.int .i64 x)) :=
  ⟨by have := heap_setCell_same _ _ 0 _ _ (.int .i64 x) h.box; simpa using this, blk_far h.out (by simp) _, h.bel.setCell (p := ⟨w.heap.size, 0, none⟩) (Nat.le_refl _) _⟩
theorem Bx.set1 {w wr : World} {num kind n : Int} {ba : Option Addr} {bl bc : Nat} {ia : Option Addr} {il ic : Nat} (h : Bx w num kind n ba bl bc ia il ic wr) (x : Int) : Bx w num x n ba bl bc ia il ic (wr.setCell ⟨w.heap.size, 1, none⟩ (.int .i64 x)) :=
  ⟨by have := heap_setCell_same _ _ 1 _ _ (.int .i64 x) h.box; simpa using this, blk_far h.out (by simp) _, h.bel.setCell (p := ⟨w.heap.size, 1, none⟩) (Nat.le_refl _) _⟩
theorem Bx.set3 {w wr : World} {num kind n : Int} {ba : Option Addr} {bl bc : Nat} {ia : Option Addr} {il ic : Nat} (h : Bx w num kind n ba bl bc ia il ic wr) (a : Option Addr) (l c : Nat) : Bx w num kind n a l c ia il ic (wr.setCell ⟨w.heap.size, 3, none⟩ (.slice a l c)) :=
  ⟨by have := heap_setCell_same _ _ 3 _ _ (.slice a l c) h.box; simpa using this, blk_far h.out (by simp) _, h.bel.setCell (p := ⟨w.heap.size, 3, none⟩) (Nat.le_refl _) _⟩
theorem Bx.set4 {w wr : World} {num kind n : Int} {ba : Option Addr} {bl bc : Nat} {ia : Option Addr} {il ic : Nat} (h : Bx w num kind n ba bl bc ia il ic wr) (a : Option Addr) (l c : Nat) : Bx w num kind n ba bl bc a l c (wr.setCell ⟨w.heap.size, 4, none⟩ (.slice a l c)) :=
  ⟨by have := heap_setCell_same _ _ 4 _ _ (.slice a l c) h.box; simpa using this, blk_far h.out (by simp) _, h.bel.setCell (p := ⟨w.heap.size, 4, none⟩) (Nat.le_refl _) _⟩
theorem Bx.below {w wr w1 : World} {num kind n : Int} {ba : Option Addr} {bl bc : Nat} {ia : Option Addr} {il ic : Nat} (h : Bx w num kind n ba bl bc ia il ic wr) (hb : Below wr.heap.size wr w1) : Bx w num kind n ba bl bc ia il ic w1 :=
  ⟨blk_below h.box hb, blk_below h.out hb, h.bel.trans (hb.mono h.bel.size)⟩
theorem Bx.drew {w wr : World} {num kind n : Int} {ba : Option Addr} {bl bc : Nat} {ia : Option Addr} {il ic : Nat} (h : Bx w num kind n ba bl bc ia il ic wr) : Bx w num kind n ba bl bc ia il ic wr.drew := ⟨h.box, h.out, below_drew h.bel⟩

/-- What field leaves. -/
def FPost (W0 h : Nat) (deep : Int) (w : World) (e : Ending) (w' : World) : Prop :=
  ∃ t' : Tr, e = .returned (.agg #[.int .i64 t'.num, .int .i64 t'.kind, .int .u64 t'.n, .slice t'.ba t'.bytes.length t'.bc, .slice t'.ia t'.ins.length t'.ic]) ∧ OkT (fun b => b < W0 ∨ w.heap.size ≤ b) w' h t' ∧ (0 ≤ deep → FitT (7 - deep).toNat t') ∧ Below w.heap.size w w'

theorem bx_call {w X w1 : World} {num kind n : Int} {ba : Option Addr} {bl bc : Nat} {ia : Option Addr} {il ic : Nat} (h : Bx w num kind n ba bl bc ia il ic X) {v : Value} {m : Nat} {xs : List Value} (ho : w1.ownsRow X.heap.size 38 5 v m xs) (hb : Below X.heap.size X w1) :
    Hid (Bx w num kind n ba bl bc ia il ic w1) ∧ w1.frozen? ⟨w.heap.size, 3, none⟩ = false ∧ w1.frozen? ⟨w.heap.size, 4, none⟩ = false ∧ w1.cell? ⟨w.heap.size, 3, none⟩ = some (.slice ba bl bc) ∧ w1.cell? ⟨w.heap.size, 4, none⟩ = some (.slice ia il ic) ∧ Hid (w1.ownsRow (w.heap.size + 2) 38 5 v m xs) := by
  have h1 := h.below hb
  obtain ⟨_, _, _, z3, z4, hz, _⟩ := h1.cells
  refine ⟨h1, hz 3, hz 4, z3, z4, own_weaken ho ?_⟩
  have := blk_lt h.out
  omega

theorem bx_min {w wr : World} {num kind n : Int} {ba : Option Addr} {b b' bc : Nat} {ia : Option Addr} {il ic : Nat} (e : b = b') (h : Bx w num kind n ba b bc ia il ic wr) : Bx w num kind n ba b' bc ia il ic wr := e ▸ h

theorem five_kinds (k : Nat) (h : k < 5) : k = 0 ∨ k = 1 ∨ k = 2 ∨ k = 3 ∨ k = 4 := by omega

theorem own_form {w : World} {base n : Nat} {A : Option Addr} {c : Nat} {size : Nat} {e : TypeId} {xs : List Value} (h : w.ownsRow base e size (.slice A n c) n xs) (h0 : 0 < n) : ∃ g, A = some ⟨g, 0, none⟩ ∧ base ≤ g ∧ n ≤ c := by
  rcases h.2 with ⟨h', hn⟩ | ⟨g, cap, cur, h', hb, hh, hnc, _⟩
  · cases h'; omega
  · cases h'; exact ⟨g, rfl, hb, hnc⟩

/-- The row of the fields within, while they are being brought into bounds. -/
def FRow (w : World) (W0 G h : Nat) (dp : Int) (num kd n : Int) (ba : Option Addr) (bl bc : Nat) (A : Option Addr) (c : Nat) (q0 : List Tr) (j : Nat) (wr : World) : Prop :=
  ∃ q : List Tr, q.length = q0.length ∧ (∀ i (hi : i < q.length), i < j → OkT (fun b => b < W0 ∨ G ≤ b) wr h q[i] ∧ (0 ≤ dp → FitT (7 - dp).toNat q[i])) ∧ (∀ i, j ≤ i → q[i]? = q0[i]?) ∧
    wr.ownsRow (w.heap.size + 2) 38 5 (.slice A q0.length c) q0.length (q.flatMap cellsT) ∧ Bx w num kd n ba bl bc A q0.length c wr ∧ G ≤ wr.heap.size

theorem Bx.far {w wr : World} {num kind n : Int} {ba : Option Addr} {bl bc : Nat} {ia : Option Addr} {il ic : Nat} (h : Bx w num kind n ba bl bc ia il ic wr) {g : Nat} (hg : w.heap.size + 2 ≤ g) (i : Nat) (u : Value) : Bx w num kind n ba bl bc ia il ic (wr.setCell ⟨g, i, none⟩ u) :=
  ⟨blk_far h.box (by simp only; omega) _, blk_far h.out (by simp only; omega) _, h.bel.setCell (p := ⟨g, i, none⟩) (by simp only; omega) _⟩

theorem rowT_set : ∀ (q : List Tr) (j : Nat) (hj : j < q.length) (i : Nat) (hi : i < 5) (u : Value) (y : Tr), cellsT y = (cellsT q[j]).set i u → (q.flatMap cellsT).set (j * 5 + i) u = (q.set j y).flatMap cellsT
  | x :: r, 0, hj, i, hi, u, y, hy => by
    simp only [List.flatMap_cons, List.set_cons_zero, List.getElem_cons_zero] at hy ⊢
    rw [hy, List.set_append_left _ _ (by simp [cellsT]; omega)]
    simp
  | x :: r, j + 1, hj, i, hi, u, y, hy => by
    simp only [List.flatMap_cons, List.set_cons_succ, List.getElem_cons_succ] at hy ⊢
    rw [List.set_append_right _ _ (by simp [cellsT]; omega), ← rowT_set r j (by simpa using hj) i hi u y hy]
    congr 2
    simp [cellsT]
    omega

theorem wrap_i64 (x : Int) : -9223372036854775808 ≤ IntKind.i64.wrap x ∧ IntKind.i64.wrap x ≤ 9223372036854775807 := by
  rw [IntKind.wrap_i64]
  omega

theorem FRow.start {w wc : World} {W0 h : Nat} {dp num kd n : Int} {ba : Option Addr} {bl bc : Nat} {A : Option Addr} {c : Nat} {q : List Tr} (ho : wc.ownsRow (w.heap.size + 2) 38 5 (.slice A q.length c) q.length (q.flatMap cellsT)) (hb : Bx w num kd n ba bl bc A q.length c wc) :
    FRow w W0 wc.heap.size h dp num kd n ba bl bc A c q 0 wc :=
  ⟨q, rfl, fun i _ hi => absurd hi (by omega), fun _ _ => rfl, ho, hb, Nat.le_refl _⟩

/-- Cells of one field in a row, set one after another. -/
def setT (wr : World) (g o : Nat) (t : Tr) : World :=
  ((((wr.setCell ⟨g, o, none⟩ (.int .i64 t.num)).setCell ⟨g, o + 1, none⟩ (.int .i64 t.kind)).setCell ⟨g, o + 2, none⟩ (.int .u64 t.n)).setCell ⟨g, o + 3, none⟩ (.slice t.ba t.bytes.length t.bc)).setCell ⟨g, o + 4, none⟩ (.slice t.ia t.ins.length t.ic)

theorem FRow.bel {w wr : World} {W0 G h : Nat} {dp num kd n : Int} {ba : Option Addr} {bl bc : Nat} {A : Option Addr} {c : Nat} {q0 : List Tr} {j : Nat} (hI : FRow w W0 G h dp num kd n ba bl bc A c q0 j wr) : Below w.heap.size w wr := by
  obtain ⟨q, _, _, _, _, hb, _⟩ := hI
  exact hb.bel

theorem FRow.box {w wr : World} {W0 G h : Nat} {dp num kd n : Int} {ba : Option Addr} {bl bc : Nat} {A : Option Addr} {c : Nat} {q0 : List Tr} {j : Nat} (hI : FRow w W0 G h dp num kd n ba bl bc A c q0 j wr) :
    wr.cell? ⟨w.heap.size, 0, none⟩ = some (.int .i64 num) ∧ wr.cell? ⟨w.heap.size, 1, none⟩ = some (.int .i64 kd) ∧ wr.cell? ⟨w.heap.size, 2, none⟩ = some (.int .u64 n) ∧ wr.cell? ⟨w.heap.size, 3, none⟩ = some (.slice ba bl bc) ∧ wr.cell? ⟨w.heap.size, 4, none⟩ = some (.slice A q0.length c) ∧ (∀ i, wr.frozen? ⟨w.heap.size, i, none⟩ = false) ∧ w.heap.size + 1 < wr.heap.size := by
  obtain ⟨q, _, _, _, _, hb, _⟩ := hI
  exact hb.cells

theorem FRow.ans {w wr : World} {W0 G h : Nat} {dp num kd n : Int} {ba : Option Addr} {bl bc : Nat} {A : Option Addr} {c : Nat} {q0 : List Tr} {j : Nat} (hI : FRow w W0 G h dp num kd n ba bl bc A c q0 j wr) :
    wr.cell? ⟨w.heap.size + 1, 0, none⟩ = some (.int .i64 0) ∧ wr.cell? ⟨w.heap.size + 1, 1, none⟩ = some (.int .i64 0) ∧ wr.cell? ⟨w.heap.size + 1, 2, none⟩ = some (.int .u64 0) ∧ wr.cell? ⟨w.heap.size + 1, 3, none⟩ = some (.slice none 0 0) ∧ wr.cell? ⟨w.heap.size + 1, 4, none⟩ = some (.slice none 0 0) ∧ (∀ i, wr.frozen? ⟨w.heap.size + 1, i, none⟩ = false) := by
  obtain ⟨q, _, _, _, _, hb, _⟩ := hI
  exact ⟨(blk_cell hb.out 0).trans rfl, (blk_cell hb.out 1).trans rfl, (blk_cell hb.out 2).trans rfl, (blk_cell hb.out 3).trans rfl, (blk_cell hb.out 4).trans rfl, fun i => blk_frozen hb.out i⟩

theorem FRow.done {w wr : World} {W0 G h : Nat} {dp num kd n : Int} {ba : Option Addr} {bl bc : Nat} {A : Option Addr} {c : Nat} {q0 : List Tr} {j : Nat} (hI : FRow w W0 G h dp num kd n ba bl bc A c q0 j wr) (v0 v1 v2 v3 v4 : Value) :
    (((((wr.setCell ⟨w.heap.size + 1, 0, none⟩ v0).setCell ⟨w.heap.size + 1, 1, none⟩ v1).setCell ⟨w.heap.size + 1, 2, none⟩ v2).setCell ⟨w.heap.size + 1, 3, none⟩ v3).setCell ⟨w.heap.size + 1, 4, none⟩ v4).cell? ⟨w.heap.size + 1, 0, none⟩ = some v0 ∧
    (((((wr.setCell ⟨w.heap.size + 1, 0, none⟩ v0).setCell ⟨w.heap.size + 1, 1, none⟩ v1).setCell ⟨w.heap.size + 1, 2, none⟩ v2).setCell ⟨w.heap.size + 1, 3, none⟩ v3).setCell ⟨w.heap.size + 1, 4, none⟩ v4).cell? ⟨w.heap.size + 1, 1, none⟩ = some v1 ∧
    (((((wr.setCell ⟨w.heap.size + 1, 0, none⟩ v0).setCell ⟨w.heap.size + 1, 1, none⟩ v1).setCell ⟨w.heap.size + 1, 2, none⟩ v2).setCell ⟨w.heap.size + 1, 3, none⟩ v3).setCell ⟨w.heap.size + 1, 4, none⟩ v4).cell? ⟨w.heap.size + 1, 2, none⟩ = some v2 ∧
    (((((wr.setCell ⟨w.heap.size + 1, 0, none⟩ v0).setCell ⟨w.heap.size + 1, 1, none⟩ v1).setCell ⟨w.heap.size + 1, 2, none⟩ v2).setCell ⟨w.heap.size + 1, 3, none⟩ v3).setCell ⟨w.heap.size + 1, 4, none⟩ v4).cell? ⟨w.heap.size + 1, 3, none⟩ = some v3 ∧
    (((((wr.setCell ⟨w.heap.size + 1, 0, none⟩ v0).setCell ⟨w.heap.size + 1, 1, none⟩ v1).setCell ⟨w.heap.size + 1, 2, none⟩ v2).setCell ⟨w.heap.size + 1, 3, none⟩ v3).setCell ⟨w.heap.size + 1, 4, none⟩ v4).cell? ⟨w.heap.size + 1, 4, none⟩ = some v4 ∧
    (∀ b, b ≠ w.heap.size + 1 → (((((wr.setCell ⟨w.heap.size + 1, 0, none⟩ v0).setCell ⟨w.heap.size + 1, 1, none⟩ v1).setCell ⟨w.heap.size + 1, 2, none⟩ v2).setCell ⟨w.heap.size + 1, 3, none⟩ v3).setCell ⟨w.heap.size + 1, 4, none⟩ v4).heap[b]? = wr.heap[b]?) ∧
    Below w.heap.size w (((((wr.setCell ⟨w.heap.size + 1, 0, none⟩ v0).setCell ⟨w.heap.size + 1, 1, none⟩ v1).setCell ⟨w.heap.size + 1, 2, none⟩ v2).setCell ⟨w.heap.size + 1, 3, none⟩ v3).setCell ⟨w.heap.size + 1, 4, none⟩ v4) := by
  obtain ⟨q, _, _, _, _, hb, _⟩ := hI
  have t1 := heap_setCell_same wr (w.heap.size + 1) 0 _ _ v0 hb.out
  have t2 := heap_setCell_same _ (w.heap.size + 1) 1 _ _ v1 t1
  have t3 := heap_setCell_same _ (w.heap.size + 1) 2 _ _ v2 t2
  have t4 := heap_setCell_same _ (w.heap.size + 1) 3 _ _ v3 t3
  have t5 := heap_setCell_same _ (w.heap.size + 1) 4 _ _ v4 t4
  refine ⟨(blk_cell t5 0).trans (by simp), (blk_cell t5 1).trans (by simp), (blk_cell t5 2).trans (by simp), (blk_cell t5 3).trans (by simp), (blk_cell t5 4).trans (by simp), fun b hne => ?_, ?_⟩
  · rw [Below.heap_setCell _ _ _ _ (by simpa using hne), Below.heap_setCell _ _ _ _ (by simpa using hne), Below.heap_setCell _ _ _ _ (by simpa using hne), Below.heap_setCell _ _ _ _ (by simpa using hne), Below.heap_setCell _ _ _ _ (by simpa using hne)]
  · exact ((((hb.bel.setCell (p := ⟨w.heap.size + 1, 0, none⟩) (Nat.le_succ _) _).setCell (p := ⟨w.heap.size + 1, 1, none⟩) (Nat.le_succ _) _).setCell (p := ⟨w.heap.size + 1, 2, none⟩) (Nat.le_succ _) _).setCell (p := ⟨w.heap.size + 1, 3, none⟩) (Nat.le_succ _) _).setCell (p := ⟨w.heap.size + 1, 4, none⟩) (Nat.le_succ _) _

/-- What is known behind the loop, wherever only the answer's block is written still. -/
theorem FRow.ended {w wr : World} {W0 G h : Nat} {dp num kd n : Int} {ba : Option Addr} {bl bc : Nat} {A : Option Addr} {c : Nat} {q0 : List Tr} (hI : FRow w W0 G h dp num kd n ba bl bc A c q0 q0.length wr) {B : List Int} (hB : B.length = bl)
    (hG : w.heap.size + 2 ≤ G) (hGA : ∀ g, A = some ⟨g, 0, none⟩ → g < G) (hW0 : ∀ b, b < W0 → b < w.heap.size) (b8 : Bytes8 B) (hbc : bl ≤ bc) (hb2 : bl ≤ 200) (hbn : ba = none → bc = 0)
    (hbh : 0 < B.length → ∃ ad, ba = some ad ∧ ad.block < W0 ∧ ∀ j, j < B.length → w.cell? (ad.add j) = some (.int .u8 (at8 B j)))
    (h1 : 1 ≤ num) (h2 : num ≤ 536870911) (n0 : 0 ≤ n) (n1 : n ≤ 18446744073709551615) (hkf : kd = 0 ∨ kd = 1 ∨ kd = 2 ∨ kd = 3 ∨ kd = 5) (hq5 : q0.length ≤ 5) :
    ∃ t' : Tr, t'.num = num ∧ t'.kind = kd ∧ t'.n = n ∧ t'.ba = ba ∧ t'.bytes.length = bl ∧ t'.bc = bc ∧ t'.ia = A ∧ t'.ins.length = q0.length ∧ t'.ic = c ∧
      (∀ w', (∀ b, b ≠ w.heap.size + 1 → w'.heap[b]? = wr.heap[b]?) → OkT (fun b => b < W0 ∨ w.heap.size ≤ b) w' (h + 1) t') ∧ (0 ≤ dp → kd = 3 → ∀ x ∈ t'.ins, FitT (7 - dp).toNat x) := by
  obtain ⟨q, hl, hd, _, ho, hb, hGs⟩ := hI
  have hin : ∀ x ∈ q, OkT (fun b => b < W0 ∨ G ≤ b) wr h x ∧ (0 ≤ dp → FitT (7 - dp).toNat x) := fun x hx => by
    obtain ⟨i, hi, rfl⟩ := List.getElem_of_mem hx
    exact hd i hi (by omega)
  refine ⟨⟨num, kd, n, B, ba, bc, q, A, c⟩, rfl, rfl, rfl, rfl, hB, rfl, rfl, hl, rfl, fun w' hw => ⟨?_, fun x hx => ?_⟩, fun h0 _ x hx => (hin x hx).2 h0⟩
  · refine { m0 := by simp only; omega, m1 := by simp only; omega, k0 := by simp only; omega, k1 := by simp only; omega, n0 := n0, n1 := n1, b8 := b8, bl := by simp only; omega, bn := hbn, bm := by simp only; omega, bh := ?_, il := ?_, inn := ?_, im := by simp only; omega, ih := ?_ }
    · intro h0
      obtain ⟨ad, e, hp, hc⟩ := hbh h0
      have hlt := hW0 _ hp
      refine ⟨ad, e, .inl hp, fun j hj => ?_⟩
      have h3 : wr.cell? (ad.add j) = some (.int .u8 (at8 B j)) := pw_cell_below hb.bel (hc j hj)
      exact (World.cell?_of_block (by rw [add_block]; exact hw _ (by omega))).trans h3
    · rcases Nat.eq_zero_or_pos q0.length with h0 | h0
      · simp only; omega
      · obtain ⟨g, _, _, h3⟩ := own_form ho h0
        simp only; omega
    · intro e
      simp only at e
      subst e
      rcases ho.2 with ⟨h', hn⟩ | ⟨g, cap, cur, h', _⟩
      · simp only [Value.slice.injEq] at h'
        exact h'.2.2
      · simp at h'
    · intro h0
      simp only at h0
      obtain ⟨g, rfl, hg, _⟩ := own_form ho (by omega)
      refine ⟨_, rfl, .inr (by simp only; omega), fun j u hu => ?_⟩
      have h3 := ho.cells (g := g) rfl j u hu
      exact (World.cell?_of_block (by rw [add_block]; exact hw _ (by simp only; omega))).trans h3
  · refine (hin x hx).1.keep (fun b hp hlt => ?_) fun b hp hlt => hw b ?_
    · rcases hp with hp | hp
      · exact .inl hp
      · exact .inr (by omega)
    · rcases hp with hp | hp
      · have := hW0 _ hp; omega
      · omega

theorem FRow.at {w wr : World} {W0 G h : Nat} {dp num kd n : Int} {ba : Option Addr} {bl bc : Nat} {A : Option Addr} {c : Nat} {q0 : List Tr} {j : Nat} (hI : FRow w W0 G h dp num kd n ba bl bc A c q0 j wr) (hj : j < q0.length) :
    ∃ g y, A = some ⟨g, 0, none⟩ ∧ y ∈ q0 ∧ (∀ W, Below wr.heap.size wr W → ∀ i, W.frozen? ⟨g, i, none⟩ = false) ∧
      wr.cell? ⟨g, j * 5, none⟩ = some (.int .i64 y.num) ∧ wr.cell? ⟨g, j * 5 + 1, none⟩ = some (.int .i64 y.kind) ∧ wr.cell? ⟨g, j * 5 + 2, none⟩ = some (.int .u64 y.n) ∧ wr.cell? ⟨g, j * 5 + 3, none⟩ = some (.slice y.ba y.bytes.length y.bc) ∧ wr.cell? ⟨g, j * 5 + 4, none⟩ = some (.slice y.ia y.ins.length y.ic) ∧
      wr.cell? ⟨w.heap.size, 4, none⟩ = some (.slice (some ⟨g, 0, none⟩) q0.length c) ∧
      ((∀ b, b < W0 → b < w.heap.size) → g < G → ∀ W t, Below wr.heap.size wr W → OkT (fun b => b < W0 ∨ wr.heap.size ≤ b) W h t → (0 ≤ dp → FitT (7 - dp).toNat t) → FRow w W0 G h dp num kd n ba bl bc A c q0 (j + 1) (setT W g (j * 5) t)) := by
  obtain ⟨q, hl, hd, hs, ho, hb, hGs⟩ := hI
  obtain ⟨g, rfl, hg, hnc⟩ := own_form ho (by omega)
  have hjq : j < q.length := by omega
  have c5 : ∀ i, i < 5 → wr.cell? ⟨g, j * 5 + i, none⟩ = (cellsT q[j])[i]? := fun i hi => by rw [ho.cellAt _ (by omega), rowT_get q j hjq i hi]
  refine ⟨g, q[j], rfl, ?_, fun W hW i => (pw_own_below ho hW).frozenAt i, (c5 0 (by omega)).trans rfl, (c5 1 (by omega)).trans rfl, (c5 2 (by omega)).trans rfl, (c5 3 (by omega)).trans rfl, (c5 4 (by omega)).trans rfl, hb.cells.2.2.2.2.1, ?_⟩
  · have h1 := hs j (Nat.le_refl _)
    rw [List.getElem?_eq_getElem hjq] at h1
    exact List.mem_of_getElem? h1.symm
  · intro hW0 hgG W t hW ht hf
    have hfar : ∀ b, b ≠ g → (setT W g (j * 5) t).heap[b]? = W.heap[b]? := fun b hbg => by
      unfold setT
      rw [Below.heap_setCell _ _ _ _ (by simpa using hbg), Below.heap_setCell _ _ _ _ (by simpa using hbg), Below.heap_setCell _ _ _ _ (by simpa using hbg), Below.heap_setCell _ _ _ _ (by simpa using hbg), Below.heap_setCell _ _ _ _ (by simpa using hbg)]
    have o0 := pw_own_below ho hW
    have o1 := (o0.stored (j * 5) (.int .i64 t.num)).1
    rw [show j * 5 = j * 5 + 0 from rfl, rowT_set q j hjq 0 (by omega) _ { q[j] with num := t.num } (by simp [cellsT])] at o1
    have o2 := (o1.stored (j * 5 + 1) (.int .i64 t.kind)).1
    rw [rowT_set _ j (by simpa using hjq) 1 (by omega) _ { q[j] with num := t.num, kind := t.kind } (by simp [cellsT]), List.set_set] at o2
    have o3 := (o2.stored (j * 5 + 2) (.int .u64 t.n)).1
    rw [rowT_set _ j (by simpa using hjq) 2 (by omega) _ { q[j] with num := t.num, kind := t.kind, n := t.n } (by simp [cellsT]), List.set_set] at o3
    have o4 := (o3.stored (j * 5 + 3) (.slice t.ba t.bytes.length t.bc)).1
    rw [rowT_set _ j (by simpa using hjq) 3 (by omega) _ { q[j] with num := t.num, kind := t.kind, n := t.n, ba := t.ba, bytes := t.bytes, bc := t.bc } (by simp [cellsT]), List.set_set] at o4
    have o5 := (o4.stored (j * 5 + 4) (.slice t.ia t.ins.length t.ic)).1
    rw [rowT_set _ j (by simpa using hjq) 4 (by omega) _ t (by simp [cellsT]), List.set_set] at o5
    have hWb : ∀ b, b < W0 → b ≠ g := fun b hlt => by have := hW0 b hlt; omega
    refine ⟨q.set j t, by simp [hl], fun i hi hij => ?_, fun i hij => ?_, o5, ?_, ?_⟩
    · simp only [List.length_set] at hi
      rcases Nat.lt_or_ge i j with h1 | h1
      · rw [List.getElem_set_ne (by omega)]
        obtain ⟨a1, a2⟩ := hd i hi h1
        refine ⟨a1.keep (fun b hp _ => hp) fun b hp hlt => ?_, a2⟩
        have hbg : b ≠ g := by
          rcases hp with hp | hp
          · exact hWb b hp
          · omega
        exact (hfar b hbg).trans (hW.block b hlt)
      · obtain rfl : i = j := by omega
        rw [List.getElem_set_self]
        refine ⟨ht.keep (fun b hp _ => ?_) fun b hp hlt => ?_, hf⟩
        · rcases hp with hp | hp
          · exact .inl hp
          · exact .inr (by omega)
        · refine hfar b ?_
          rcases hp with hp | hp
          · exact hWb b hp
          · omega
    · rw [List.getElem?_set_ne (by omega)]
      exact hs i (by omega)
    · exact ((((hb.below hW).far hg _ _).far hg _ _).far hg _ _ |>.far hg _ _).far hg _ _
    · have := hW.size
      simp [setT]
      omega

theorem fit_end {deep : Int} {t : Tr} (hd : 0 ≤ deep) (d1 : deep ≤ 9223372036854775807) (h1 : 1 ≤ t.num) (h2 : t.num ≤ 536870911) (hk : t.kind = 0 ∨ t.kind = 1 ∨ t.kind = 2 ∨ t.kind = 3 ∨ t.kind = 5) (hk6 : t.kind = 3 → deep ≤ 6) (hb : t.bytes.length ≤ 200) (hi : t.ins.length ≤ 5)
    (hf : 0 ≤ IntKind.i64.wrap (deep + 1) → t.kind = 3 → ∀ x ∈ t.ins, FitT (7 - IntKind.i64.wrap (deep + 1)).toNat x) : FitT (7 - deep).toNat t := by
  by_cases h6 : deep ≤ 6
  · have e : IntKind.i64.wrap (deep + 1) = deep + 1 := IntWalk.i64_in _ (by omega)
    rw [e] at hf
    have e2 : (7 - deep).toNat = (7 - (deep + 1)).toNat + 1 := by omega
    rw [e2]
    exact ⟨h1, h2, hk, hb, hi, hf (by omega)⟩
  · have e2 : (7 - deep).toNat = 0 := by omega
    rw [e2]
    exact ⟨h1, h2, by omega, hb, hi⟩

set_option maxHeartbeats 4000000 in
set_option maxRecDepth 100000 in
theorem field_walk (w : World) (num kind n : Int) (m0 : -9223372036854775808 ≤ num) (m1 : num ≤ 9223372036854775807) (k0 : -9223372036854775808 ≤ kind) (k1 : kind ≤ 9223372036854775807) (ba : Option Addr) (bl bc : Nat) (ia : Option Addr) (il ic : Nat) (deep : Int) (d0 : -9223372036854775808 ≤ deep) (d1 : deep ≤ 9223372036854775807)
    (hbl : bl ≤ bc) (hil : il ≤ ic) (hin : ia = none → ic = 0) (W0 h : Nat) (q : List Tr) (hW0 : W0 ≤ w.heap.size) (hq : q.length = min il 5) (hr : 0 < q.length → ∃ ad, ia = some ad ∧ ∀ j u, (q.flatMap cellsT)[j]? = some u → w.cell? (ad.add j) = some u)
    (hIH : ∀ y ∈ q, ∀ W, Below w.heap.size w W → ∀ dp : Int, -9223372036854775808 ≤ dp → dp ≤ 9223372036854775807 → Calls Try.prog 16 #[.agg #[.int .i64 y.num, .int .i64 y.kind, .int .u64 y.n, .slice y.ba y.bytes.length y.bc, .slice y.ia y.ins.length y.ic], .int .i64 dp] W (FPost W0 h dp W))
    (B : List Int) (hEND : B.length = min bl 200 ∧ Bytes8 B ∧ (ba = none → bc = 0) ∧ (0 < B.length → ∃ ad, ba = some ad ∧ ad.block < W0 ∧ ∀ j, j < B.length → w.cell? (ad.add j) = some (.int .u8 (at8 B j))) ∧ 0 ≤ n ∧ n ≤ 18446744073709551615) :
    Calls Try.prog 16 #[.agg #[.int .i64 num, .int .i64 kind, .int .u64 n, .slice ba bl bc, .slice ia il ic], .int .i64 deep] w (FPost W0 (h + 1) deep w) := by
  have HQ := Lib.hid hq
  have HR := Lib.hid hr
  have HIN := Lib.hid hin
  have HIH := Lib.hid hIH
  have HEND := Lib.hid hEND
  have HW0 : Hid (∀ b, b < W0 → b < w.heap.size) := fun b hb => Nat.lt_of_lt_of_le hb hW0
  clear hq hr hin hIH hW0 hEND
  go_enter Try.func16, Try.ntmps16
  go_upto_region 1 with (fail)
  have HW := Lib.hid (Bx.new w num kind n ba bl bc ia il ic)
  generalize (w.alloc (.cells #[.int .i64 num, .int .i64 kind, .int .u64 n, .slice ba bl bc, .slice ia il ic] 38)).alloc (.cells #[.int .i64 0, .int .i64 0, .int .u64 0, .slice none 0 0, .slice none 0 0] 38) = W at HW ⊢
  obtain ⟨y0, y1, y2, y3, y4, yf, yz⟩ := HW.out.cells
  have f0 := yf 0
  clear y1 y2 y3 y4 yf yz
  go_wp2_with fail
  refine (below_big num _ m0 m1).mono ?_
  rintro e w1 ⟨x, hx, rfl, rfl⟩
  go_upto_region 2 with (fail)
  have HW1 := Lib.hid (HW.out.set0 (1 + (x : Int)))
  generalize (W.setCell ⟨w.heap.size, 0, none⟩ (.int .i64 (1 + (x : Int)))) = W1 at HW1 ⊢
  clear y0 f0 HW
  go_cut [] (fun wc => ∃ kd : Int, (kd = 0 ∨ kd = 1 ∨ kd = 2 ∨ kd = 3 ∨ kd = 5) ∧ Hid (Bx w (1 + (x : Int)) kd n ba bl bc ia il ic wc))
  case first =>
    obtain ⟨y0, y1, y2, y3, y4, yf, yz⟩ := HW1.out.cells
    have f1 := yf 1
    have hz : w.heap.size < W1.heap.size := by omega
    clear y0 y2 y3 y4 yf yz
    go_wp2_with fail
    refine (below_5 kind _ k0 k1).mono ?_
    rintro e w2 ⟨y, hy, rfl, rfl⟩
    rcases five_kinds y hy with rfl | rfl | rfl | rfl | rfl
    all_goals
      go_wp2_with fail
      go_meet
      refine ⟨_, ?_, (HW1.out.set1 _).below (wa_below _ _)⟩
      omega
  case rest =>
    obtain ⟨kd, hkd, HW2⟩ := hcut
    have hk8 : -8 ≤ kd ∧ kd ≤ 8 := by omega
    clear HW1
    go_upto_region 3 with (fail)
    go_cut [24] (fun t wc => ∃ b : Bool, t = .bool b ∧ (b = true → kd = 3) ∧ (b = false → kd = 3 → deep ≤ 6) ∧ Hid (Bx w (1 + (x : Int)) kd n ba bl bc ia il ic wc))
    case first =>
      obtain ⟨y0, y1, y2, y3, y4, yf, yz⟩ := HW2.out.cells
      clear y0 y2 y3 y4 yf yz
      by_cases h3 : kd = 3
      · subst h3
        by_cases h6 : (6 : Int) < deep
        · go_wp2_with fail
          go_meet
          exact ⟨true, rfl, by first | exact fun _ => rfl | simp, fun h => by simp at h, HW2⟩
        · go_wp2_with fail
          go_meet
          exact ⟨false, rfl, fun h => by simp at h, by first | (intro _ _; omega) | (intros; trivial) | simp, HW2⟩
      · have e3 : ((kd : Int) == 3) = false := by simp; omega
        go_wp2_with fail
        go_meet
        exact ⟨false, rfl, fun h => by simp at h, fun _ h => absurd h h3, HW2⟩
    case rest =>
      obtain ⟨b, rfl, hb1, hb2, HW3⟩ := hcut
      have HBT := Lib.hid hb1
      have HBF := Lib.hid hb2
      clear HW2 hb1 hb2
      go_upto_if 24 with (fail)
      go_cut [] (fun wc => ∃ kf : Int, (kf = 0 ∨ kf = 1 ∨ kf = 2 ∨ kf = 3 ∨ kf = 5) ∧ (kf = 3 → deep ≤ 6) ∧ Hid (Bx w (1 + (x : Int)) kf n ba bl bc ia il ic wc))
      case first =>
        cases b
        · go_wp2_with fail
          go_meet
          exact ⟨kd, hkd, by have h := HBF.out; simpa using h, HW3⟩
        · obtain ⟨y0, y1, y2, y3, y4, yf, yz⟩ := HW3.out.cells
          have f1 := yf 1
          clear y0 y2 y3 y4 yf yz
          go_wp2_with fail
          go_meet
          exact ⟨0, by simp, fun e => by simp at e, HW3.out.set1 0⟩
      case rest =>
        obtain ⟨kf, hkf, hk6, HW4⟩ := hcut
        have HK6 := Lib.hid hk6
        have HKF := Lib.hid hkf
        clear hk6 hkf hkd hk8 HW3 HBT HBF
        go_upto_region 5 with (fail)
        go_cut [] (fun wc => ∃ A c, Hid (wc.ownsRow (w.heap.size + 2) 38 5 (.slice A q.length c) q.length (q.flatMap cellsT)) ∧ Hid (Bx w (1 + (x : Int)) kf n ba (min bl 200) bc A q.length c wc))
        case first =>
          have HC := Lib.hid fun W (hW : Below w.heap.size w W) m (hm : m = q.length) => cloneT_any ia ic m q hm (by have := HQ.out; omega) HIN.out W (rowT_below HR.out hW)
          obtain ⟨y0, y1, y2, y3, y4, yf, yz⟩ := HW4.out.cells
          have f3 := yf 3
          have f4 := yf 4
          have HW := Lib.hid HW4.out.bel
          clear y0 y1 y2 yf yz HR HIN
          -- REGION 5
          by_cases g0 : bl ≤ 200
          · by_cases g1 : il ≤ 5
            · have HE : Hid (il = q.length) := by have := HQ.out; exact (by omega : il = q.length)
              have HM : Hid (bl = min bl 200) := (by omega : bl = min bl 200)
              have i0 : ((200 : Int) < (bl : Int)) = False := by simp; omega
              have i1 : ((5 : Int) < (il : Int)) = False := by simp; omega
              refine region_till 16 (fun W => W.cell? ⟨w.heap.size, 3, none⟩ = some (.slice ba bl bc) ∧ W.cell? ⟨w.heap.size, 4, none⟩ = some (.slice ia il ic)) (by kernel_rfl) ?_
              have hS0 : wc.drew.cell? ⟨w.heap.size, 3, none⟩ = some (.slice ba bl bc) ∧ wc.drew.cell? ⟨w.heap.size, 4, none⟩ = some (.slice ia il ic) := ⟨y3, y4⟩
              refine till_take_free (i := 0) (v := ?tv1x0) rfl (by kernel_rfl) (by kernel_rfl) (by kernel_rfl) (by kernel_rfl) (fun _ _ _ h => h) hS0 (Or.inl ⟨by rfl, ?ty1x0⟩) ?tr1x0
              case ty1x0 => intro W hW; go_simp; try with_reducible rfl
              simp only [Act.put, List.setIfInBounds_toArray, List.set_cons_zero, List.set_cons_succ]
              refine till_take (i := 1) (v := ?tv1x1) rfl (by kernel_rfl) (by kernel_rfl) (by kernel_rfl) (by kernel_rfl) (fun _ _ _ h => h) hS0 (Or.inl ⟨by rfl, ?ty1x1⟩) ?tr1x1
              case ty1x1 => intro W hW; obtain ⟨z3, z4⟩ := hW; go_simp; try with_reducible rfl
              simp only [Act.put, List.setIfInBounds_toArray, List.set_cons_zero, List.set_cons_succ]
              refine till_take_free (i := 2) (v := ?tv1x2) rfl (by kernel_rfl) (by kernel_rfl) (by kernel_rfl) (by kernel_rfl) (fun _ _ _ h => h) hS0 (Or.inl ⟨by rfl, ?ty1x2⟩) ?tr1x2
              case ty1x2 => intro W hW; go_simp; try with_reducible rfl
              simp only [Act.put, List.setIfInBounds_toArray, List.set_cons_zero, List.set_cons_succ]
              refine till_take (i := 3) (v := ?tv1x3) rfl (by kernel_rfl) (by kernel_rfl) (by kernel_rfl) (by kernel_rfl) (fun _ _ _ h => h) hS0 (Or.inl ⟨by rfl, ?ty1x3⟩) ?tr1x3
              case ty1x3 => intro W hW; obtain ⟨z3, z4⟩ := hW; go_simp; try with_reducible rfl
              simp only [Act.put, List.setIfInBounds_toArray, List.set_cons_zero, List.set_cons_succ]
              refine till_take_free (i := 4) (v := ?tv1x4) rfl (by kernel_rfl) (by kernel_rfl) (by kernel_rfl) (by kernel_rfl) (fun _ _ _ h => h) hS0 (Or.inl ⟨by rfl, ?ty1x4⟩) ?tr1x4
              case ty1x4 => intro W hW; go_simp; try with_reducible rfl
              simp only [Act.put, List.setIfInBounds_toArray, List.set_cons_zero, List.set_cons_succ]
              refine till_take_free (i := 5) (v := ?tv1x5) rfl (by kernel_rfl) (by kernel_rfl) (by kernel_rfl) (by kernel_rfl) (fun _ _ _ h => h) hS0 (Or.inl ⟨by rfl, ?ty1x5⟩) ?tr1x5
              case ty1x5 => intro W hW; go_simp; try with_reducible rfl
              simp only [Act.put, List.setIfInBounds_toArray, List.set_cons_zero, List.set_cons_succ]
              refine till_take_free (i := 6) (v := ?tv1x6) rfl (by kernel_rfl) (by kernel_rfl) (by kernel_rfl) (by kernel_rfl) (fun _ _ _ h => h) hS0 (Or.inl ⟨by rfl, ?ty1x6⟩) ?tr1x6
              case ty1x6 => intro W hW; go_simp; try with_reducible rfl
              simp only [Act.put, List.setIfInBounds_toArray, List.set_cons_zero, List.set_cons_succ]
              refine till_take_free (i := 7) (v := ?tv1x7) rfl (by kernel_rfl) (by kernel_rfl) (by kernel_rfl) (by kernel_rfl) (fun _ _ _ h => h) hS0 (Or.inl ⟨by rfl, ?ty1x7⟩) ?tr1x7
              case ty1x7 => intro W hW; go_simp; try with_reducible rfl
              simp only [Act.put, List.setIfInBounds_toArray, List.set_cons_zero, List.set_cons_succ]
              refine till_take (i := 8) (v := ?tv1x8) rfl (by kernel_rfl) (by kernel_rfl) (by kernel_rfl) (by kernel_rfl) (fun _ _ _ h => h) hS0 (Or.inl ⟨by rfl, ?ty1x8⟩) ?tr1x8
              case ty1x8 => intro W hW; obtain ⟨z3, z4⟩ := hW; go_simp; try with_reducible rfl
              simp only [Act.put, List.setIfInBounds_toArray, List.set_cons_zero, List.set_cons_succ]
              refine till_take_free (i := 9) (v := ?tv1x9) rfl (by kernel_rfl) (by kernel_rfl) (by kernel_rfl) (by kernel_rfl) (fun _ _ _ h => h) hS0 (Or.inl ⟨by rfl, ?ty1x9⟩) ?tr1x9
              case ty1x9 => intro W hW; go_simp; try with_reducible rfl
              simp only [Act.put, List.setIfInBounds_toArray, List.set_cons_zero, List.set_cons_succ]
              refine till_take (i := 10) (v := ?tv1x10) rfl (by kernel_rfl) (by kernel_rfl) (by kernel_rfl) (by kernel_rfl) (fun _ _ _ h => h) hS0 (Or.inl ⟨by rfl, ?ty1x10⟩) ?tr1x10
              case ty1x10 => intro W hW; obtain ⟨z3, z4⟩ := hW; go_simp; try with_reducible rfl
              simp only [Act.put, List.setIfInBounds_toArray, List.set_cons_zero, List.set_cons_succ]
              refine till_take_free (i := 11) (v := ?tv1x11) rfl (by kernel_rfl) (by kernel_rfl) (by kernel_rfl) (by kernel_rfl) (fun _ _ _ h => h) hS0 (Or.inl ⟨by rfl, ?ty1x11⟩) ?tr1x11
              case ty1x11 => intro W hW; go_simp; try with_reducible rfl
              simp only [Act.put, List.setIfInBounds_toArray, List.set_cons_zero, List.set_cons_succ]
              refine till_take_free (i := 12) (v := ?tv1x12) rfl (by kernel_rfl) (by kernel_rfl) (by kernel_rfl) (by kernel_rfl) (fun _ _ _ h => h) hS0 (Or.inl ⟨by rfl, ?ty1x12⟩) ?tr1x12
              case ty1x12 => intro W hW; go_simp; try with_reducible rfl
              simp only [Act.put, List.setIfInBounds_toArray, List.set_cons_zero, List.set_cons_succ]
              refine till_take_free (i := 13) (v := ?tv1x13) rfl (by kernel_rfl) (by kernel_rfl) (by kernel_rfl) (by kernel_rfl) (fun _ _ _ h => h) hS0 (Or.inl ⟨by rfl, ?ty1x13⟩) ?tr1x13
              case ty1x13 => intro W hW; go_simp; try with_reducible rfl
              simp only [Act.put, List.setIfInBounds_toArray, List.set_cons_zero, List.set_cons_succ]
              refine till_take_free (i := 15) (v := ?tv1x15) rfl (by kernel_rfl) (by kernel_rfl) (by kernel_rfl) (by kernel_rfl) (fun _ _ _ h => h) hS0 (Or.inl ⟨by rfl, ?ty1x15⟩) ?tr1x15
              case ty1x15 => intro W hW; go_simp; try with_reducible rfl
              simp only [Act.put, List.setIfInBounds_toArray, List.set_cons_zero, List.set_cons_succ]
              refine till_step (i := 14) (by kernel_rfl) rfl (fun K hK => ?_)
              have HK := Lib.hid hK
              clear hK hS0
              go_simp
              refine (HC.out _ (below_drew HW.out) il HE.out).mono ?_
              rintro e w1 ⟨A, c, rfl, ho, hb⟩
              obtain ⟨HT, f3', f4', y3', y4', HO⟩ := bx_call HW4.out.drew ho hb
              clear ho hb
              go_simp
              refine HK.out _ _ ⟨⟨y3', y4'⟩, till_last (by kernel_rfl) (by kernel_rfl) (any_three (i := 16) (j := 17) (k := 18) rfl rfl rfl (by kernel_rfl) ?_)⟩
              clear HK y3 y4 f3 f4
              go_wp2_with fail
              go_meet
              exact ⟨A, c, ownsRow_setCell_below (ownsRow_setCell_below HO.out (by simp) _) (by simp) _, bx_min HM.out ((HT.out.set3 ba bl bc).set4 A q.length c)⟩
            · have HE : Hid (5 = q.length) := by have := HQ.out; exact (by omega : 5 = q.length)
              have HM : Hid (bl = min bl 200) := (by omega : bl = min bl 200)
              have i0 : ((200 : Int) < (bl : Int)) = False := by simp; omega
              have i1 : ((5 : Int) < (il : Int)) = True := by simp; omega
              have i4 : 5 ≤ ic := by omega
              have i5 : (5 : Int) ≤ (ic : Int) := by omega
              refine region_till 16 (fun W => W.cell? ⟨w.heap.size, 3, none⟩ = some (.slice ba bl bc) ∧ W.cell? ⟨w.heap.size, 4, none⟩ = some (.slice ia il ic)) (by kernel_rfl) ?_
              have hS0 : wc.drew.cell? ⟨w.heap.size, 3, none⟩ = some (.slice ba bl bc) ∧ wc.drew.cell? ⟨w.heap.size, 4, none⟩ = some (.slice ia il ic) := ⟨y3, y4⟩
              refine till_take_free (i := 0) (v := ?tv2x0) rfl (by kernel_rfl) (by kernel_rfl) (by kernel_rfl) (by kernel_rfl) (fun _ _ _ h => h) hS0 (Or.inl ⟨by rfl, ?ty2x0⟩) ?tr2x0
              case ty2x0 => intro W hW; go_simp; try with_reducible rfl
              simp only [Act.put, List.setIfInBounds_toArray, List.set_cons_zero, List.set_cons_succ]
              refine till_take (i := 1) (v := ?tv2x1) rfl (by kernel_rfl) (by kernel_rfl) (by kernel_rfl) (by kernel_rfl) (fun _ _ _ h => h) hS0 (Or.inl ⟨by rfl, ?ty2x1⟩) ?tr2x1
              case ty2x1 => intro W hW; obtain ⟨z3, z4⟩ := hW; go_simp; try with_reducible rfl
              simp only [Act.put, List.setIfInBounds_toArray, List.set_cons_zero, List.set_cons_succ]
              refine till_take_free (i := 2) (v := ?tv2x2) rfl (by kernel_rfl) (by kernel_rfl) (by kernel_rfl) (by kernel_rfl) (fun _ _ _ h => h) hS0 (Or.inl ⟨by rfl, ?ty2x2⟩) ?tr2x2
              case ty2x2 => intro W hW; go_simp; try with_reducible rfl
              simp only [Act.put, List.setIfInBounds_toArray, List.set_cons_zero, List.set_cons_succ]
              refine till_take (i := 3) (v := ?tv2x3) rfl (by kernel_rfl) (by kernel_rfl) (by kernel_rfl) (by kernel_rfl) (fun _ _ _ h => h) hS0 (Or.inl ⟨by rfl, ?ty2x3⟩) ?tr2x3
              case ty2x3 => intro W hW; obtain ⟨z3, z4⟩ := hW; go_simp; try with_reducible rfl
              simp only [Act.put, List.setIfInBounds_toArray, List.set_cons_zero, List.set_cons_succ]
              refine till_take_free (i := 4) (v := ?tv2x4) rfl (by kernel_rfl) (by kernel_rfl) (by kernel_rfl) (by kernel_rfl) (fun _ _ _ h => h) hS0 (Or.inl ⟨by rfl, ?ty2x4⟩) ?tr2x4
              case ty2x4 => intro W hW; go_simp; try with_reducible rfl
              simp only [Act.put, List.setIfInBounds_toArray, List.set_cons_zero, List.set_cons_succ]
              refine till_take_free (i := 5) (v := ?tv2x5) rfl (by kernel_rfl) (by kernel_rfl) (by kernel_rfl) (by kernel_rfl) (fun _ _ _ h => h) hS0 (Or.inl ⟨by rfl, ?ty2x5⟩) ?tr2x5
              case ty2x5 => intro W hW; go_simp; try with_reducible rfl
              simp only [Act.put, List.setIfInBounds_toArray, List.set_cons_zero, List.set_cons_succ]
              refine till_take_free (i := 6) (v := ?tv2x6) rfl (by kernel_rfl) (by kernel_rfl) (by kernel_rfl) (by kernel_rfl) (fun _ _ _ h => h) hS0 (Or.inl ⟨by rfl, ?ty2x6⟩) ?tr2x6
              case ty2x6 => intro W hW; go_simp; try with_reducible rfl
              simp only [Act.put, List.setIfInBounds_toArray, List.set_cons_zero, List.set_cons_succ]
              refine till_take_free (i := 7) (v := ?tv2x7) rfl (by kernel_rfl) (by kernel_rfl) (by kernel_rfl) (by kernel_rfl) (fun _ _ _ h => h) hS0 (Or.inl ⟨by rfl, ?ty2x7⟩) ?tr2x7
              case ty2x7 => intro W hW; go_simp; try with_reducible rfl
              simp only [Act.put, List.setIfInBounds_toArray, List.set_cons_zero, List.set_cons_succ]
              refine till_take (i := 8) (v := ?tv2x8) rfl (by kernel_rfl) (by kernel_rfl) (by kernel_rfl) (by kernel_rfl) (fun _ _ _ h => h) hS0 (Or.inl ⟨by rfl, ?ty2x8⟩) ?tr2x8
              case ty2x8 => intro W hW; obtain ⟨z3, z4⟩ := hW; go_simp; try with_reducible rfl
              simp only [Act.put, List.setIfInBounds_toArray, List.set_cons_zero, List.set_cons_succ]
              refine till_take_free (i := 9) (v := ?tv2x9) rfl (by kernel_rfl) (by kernel_rfl) (by kernel_rfl) (by kernel_rfl) (fun _ _ _ h => h) hS0 (Or.inl ⟨by rfl, ?ty2x9⟩) ?tr2x9
              case ty2x9 => intro W hW; go_simp; try with_reducible rfl
              simp only [Act.put, List.setIfInBounds_toArray, List.set_cons_zero, List.set_cons_succ]
              refine till_take (i := 10) (v := ?tv2x10) rfl (by kernel_rfl) (by kernel_rfl) (by kernel_rfl) (by kernel_rfl) (fun _ _ _ h => h) hS0 (Or.inl ⟨by rfl, ?ty2x10⟩) ?tr2x10
              case ty2x10 => intro W hW; obtain ⟨z3, z4⟩ := hW; go_simp; try with_reducible rfl
              simp only [Act.put, List.setIfInBounds_toArray, List.set_cons_zero, List.set_cons_succ]
              refine till_take_free (i := 11) (v := ?tv2x11) rfl (by kernel_rfl) (by kernel_rfl) (by kernel_rfl) (by kernel_rfl) (fun _ _ _ h => h) hS0 (Or.inl ⟨by rfl, ?ty2x11⟩) ?tr2x11
              case ty2x11 => intro W hW; go_simp; try with_reducible rfl
              simp only [Act.put, List.setIfInBounds_toArray, List.set_cons_zero, List.set_cons_succ]
              refine till_take_free (i := 12) (v := ?tv2x12) rfl (by kernel_rfl) (by kernel_rfl) (by kernel_rfl) (by kernel_rfl) (fun _ _ _ h => h) hS0 (Or.inl ⟨by rfl, ?ty2x12⟩) ?tr2x12
              case ty2x12 => intro W hW; go_simp; try with_reducible rfl
              simp only [Act.put, List.setIfInBounds_toArray, List.set_cons_zero, List.set_cons_succ]
              refine till_take_free (i := 13) (v := ?tv2x13) rfl (by kernel_rfl) (by kernel_rfl) (by kernel_rfl) (by kernel_rfl) (fun _ _ _ h => h) hS0 (Or.inl ⟨by rfl, ?ty2x13⟩) ?tr2x13
              case ty2x13 => intro W hW; go_simp; try with_reducible rfl
              simp only [Act.put, List.setIfInBounds_toArray, List.set_cons_zero, List.set_cons_succ]
              refine till_take_free (i := 15) (v := ?tv2x15) rfl (by kernel_rfl) (by kernel_rfl) (by kernel_rfl) (by kernel_rfl) (fun _ _ _ h => h) hS0 (Or.inl ⟨by rfl, ?ty2x15⟩) ?tr2x15
              case ty2x15 => intro W hW; go_simp; try with_reducible rfl
              simp only [Act.put, List.setIfInBounds_toArray, List.set_cons_zero, List.set_cons_succ]
              refine till_step (i := 14) (by kernel_rfl) rfl (fun K hK => ?_)
              have HK := Lib.hid hK
              clear hK hS0
              go_simp
              refine (HC.out _ (below_drew HW.out) 5 HE.out).mono ?_
              rintro e w1 ⟨A, c, rfl, ho, hb⟩
              obtain ⟨HT, f3', f4', y3', y4', HO⟩ := bx_call HW4.out.drew ho hb
              clear ho hb
              go_simp
              refine HK.out _ _ ⟨⟨y3', y4'⟩, till_last (by kernel_rfl) (by kernel_rfl) (any_three (i := 16) (j := 17) (k := 18) rfl rfl rfl (by kernel_rfl) ?_)⟩
              clear HK y3 y4 f3 f4
              go_wp2_with fail
              go_meet
              exact ⟨A, c, ownsRow_setCell_below (ownsRow_setCell_below HO.out (by simp) _) (by simp) _, bx_min HM.out ((HT.out.set3 ba bl bc).set4 A q.length c)⟩
          · by_cases g1 : il ≤ 5
            · have HE : Hid (il = q.length) := by have := HQ.out; exact (by omega : il = q.length)
              have HM : Hid (200 = min bl 200) := (by omega : 200 = min bl 200)
              have i0 : ((200 : Int) < (bl : Int)) = True := by simp; omega
              have i1 : ((5 : Int) < (il : Int)) = False := by simp; omega
              have i2 : 200 ≤ bc := by omega
              have i3 : (200 : Int) ≤ (bc : Int) := by omega
              refine region_till 16 (fun W => W.cell? ⟨w.heap.size, 3, none⟩ = some (.slice ba bl bc) ∧ W.cell? ⟨w.heap.size, 4, none⟩ = some (.slice ia il ic)) (by kernel_rfl) ?_
              have hS0 : wc.drew.cell? ⟨w.heap.size, 3, none⟩ = some (.slice ba bl bc) ∧ wc.drew.cell? ⟨w.heap.size, 4, none⟩ = some (.slice ia il ic) := ⟨y3, y4⟩
              refine till_take_free (i := 0) (v := ?tv3x0) rfl (by kernel_rfl) (by kernel_rfl) (by kernel_rfl) (by kernel_rfl) (fun _ _ _ h => h) hS0 (Or.inl ⟨by rfl, ?ty3x0⟩) ?tr3x0
              case ty3x0 => intro W hW; go_simp; try with_reducible rfl
              simp only [Act.put, List.setIfInBounds_toArray, List.set_cons_zero, List.set_cons_succ]
              refine till_take (i := 1) (v := ?tv3x1) rfl (by kernel_rfl) (by kernel_rfl) (by kernel_rfl) (by kernel_rfl) (fun _ _ _ h => h) hS0 (Or.inl ⟨by rfl, ?ty3x1⟩) ?tr3x1
              case ty3x1 => intro W hW; obtain ⟨z3, z4⟩ := hW; go_simp; try with_reducible rfl
              simp only [Act.put, List.setIfInBounds_toArray, List.set_cons_zero, List.set_cons_succ]
              refine till_take_free (i := 2) (v := ?tv3x2) rfl (by kernel_rfl) (by kernel_rfl) (by kernel_rfl) (by kernel_rfl) (fun _ _ _ h => h) hS0 (Or.inl ⟨by rfl, ?ty3x2⟩) ?tr3x2
              case ty3x2 => intro W hW; go_simp; try with_reducible rfl
              simp only [Act.put, List.setIfInBounds_toArray, List.set_cons_zero, List.set_cons_succ]
              refine till_take (i := 3) (v := ?tv3x3) rfl (by kernel_rfl) (by kernel_rfl) (by kernel_rfl) (by kernel_rfl) (fun _ _ _ h => h) hS0 (Or.inl ⟨by rfl, ?ty3x3⟩) ?tr3x3
              case ty3x3 => intro W hW; obtain ⟨z3, z4⟩ := hW; go_simp; try with_reducible rfl
              simp only [Act.put, List.setIfInBounds_toArray, List.set_cons_zero, List.set_cons_succ]
              refine till_take_free (i := 4) (v := ?tv3x4) rfl (by kernel_rfl) (by kernel_rfl) (by kernel_rfl) (by kernel_rfl) (fun _ _ _ h => h) hS0 (Or.inl ⟨by rfl, ?ty3x4⟩) ?tr3x4
              case ty3x4 => intro W hW; go_simp; try with_reducible rfl
              simp only [Act.put, List.setIfInBounds_toArray, List.set_cons_zero, List.set_cons_succ]
              refine till_take_free (i := 5) (v := ?tv3x5) rfl (by kernel_rfl) (by kernel_rfl) (by kernel_rfl) (by kernel_rfl) (fun _ _ _ h => h) hS0 (Or.inl ⟨by rfl, ?ty3x5⟩) ?tr3x5
              case ty3x5 => intro W hW; go_simp; try with_reducible rfl
              simp only [Act.put, List.setIfInBounds_toArray, List.set_cons_zero, List.set_cons_succ]
              refine till_take_free (i := 6) (v := ?tv3x6) rfl (by kernel_rfl) (by kernel_rfl) (by kernel_rfl) (by kernel_rfl) (fun _ _ _ h => h) hS0 (Or.inl ⟨by rfl, ?ty3x6⟩) ?tr3x6
              case ty3x6 => intro W hW; go_simp; try with_reducible rfl
              simp only [Act.put, List.setIfInBounds_toArray, List.set_cons_zero, List.set_cons_succ]
              refine till_take_free (i := 7) (v := ?tv3x7) rfl (by kernel_rfl) (by kernel_rfl) (by kernel_rfl) (by kernel_rfl) (fun _ _ _ h => h) hS0 (Or.inl ⟨by rfl, ?ty3x7⟩) ?tr3x7
              case ty3x7 => intro W hW; go_simp; try with_reducible rfl
              simp only [Act.put, List.setIfInBounds_toArray, List.set_cons_zero, List.set_cons_succ]
              refine till_take (i := 8) (v := ?tv3x8) rfl (by kernel_rfl) (by kernel_rfl) (by kernel_rfl) (by kernel_rfl) (fun _ _ _ h => h) hS0 (Or.inl ⟨by rfl, ?ty3x8⟩) ?tr3x8
              case ty3x8 => intro W hW; obtain ⟨z3, z4⟩ := hW; go_simp; try with_reducible rfl
              simp only [Act.put, List.setIfInBounds_toArray, List.set_cons_zero, List.set_cons_succ]
              refine till_take_free (i := 9) (v := ?tv3x9) rfl (by kernel_rfl) (by kernel_rfl) (by kernel_rfl) (by kernel_rfl) (fun _ _ _ h => h) hS0 (Or.inl ⟨by rfl, ?ty3x9⟩) ?tr3x9
              case ty3x9 => intro W hW; go_simp; try with_reducible rfl
              simp only [Act.put, List.setIfInBounds_toArray, List.set_cons_zero, List.set_cons_succ]
              refine till_take (i := 10) (v := ?tv3x10) rfl (by kernel_rfl) (by kernel_rfl) (by kernel_rfl) (by kernel_rfl) (fun _ _ _ h => h) hS0 (Or.inl ⟨by rfl, ?ty3x10⟩) ?tr3x10
              case ty3x10 => intro W hW; obtain ⟨z3, z4⟩ := hW; go_simp; try with_reducible rfl
              simp only [Act.put, List.setIfInBounds_toArray, List.set_cons_zero, List.set_cons_succ]
              refine till_take_free (i := 11) (v := ?tv3x11) rfl (by kernel_rfl) (by kernel_rfl) (by kernel_rfl) (by kernel_rfl) (fun _ _ _ h => h) hS0 (Or.inl ⟨by rfl, ?ty3x11⟩) ?tr3x11
              case ty3x11 => intro W hW; go_simp; try with_reducible rfl
              simp only [Act.put, List.setIfInBounds_toArray, List.set_cons_zero, List.set_cons_succ]
              refine till_take_free (i := 12) (v := ?tv3x12) rfl (by kernel_rfl) (by kernel_rfl) (by kernel_rfl) (by kernel_rfl) (fun _ _ _ h => h) hS0 (Or.inl ⟨by rfl, ?ty3x12⟩) ?tr3x12
              case ty3x12 => intro W hW; go_simp; try with_reducible rfl
              simp only [Act.put, List.setIfInBounds_toArray, List.set_cons_zero, List.set_cons_succ]
              refine till_take_free (i := 13) (v := ?tv3x13) rfl (by kernel_rfl) (by kernel_rfl) (by kernel_rfl) (by kernel_rfl) (fun _ _ _ h => h) hS0 (Or.inl ⟨by rfl, ?ty3x13⟩) ?tr3x13
              case ty3x13 => intro W hW; go_simp; try with_reducible rfl
              simp only [Act.put, List.setIfInBounds_toArray, List.set_cons_zero, List.set_cons_succ]
              refine till_take_free (i := 15) (v := ?tv3x15) rfl (by kernel_rfl) (by kernel_rfl) (by kernel_rfl) (by kernel_rfl) (fun _ _ _ h => h) hS0 (Or.inl ⟨by rfl, ?ty3x15⟩) ?tr3x15
              case ty3x15 => intro W hW; go_simp; try with_reducible rfl
              simp only [Act.put, List.setIfInBounds_toArray, List.set_cons_zero, List.set_cons_succ]
              refine till_step (i := 14) (by kernel_rfl) rfl (fun K hK => ?_)
              have HK := Lib.hid hK
              clear hK hS0
              go_simp
              refine (HC.out _ (below_drew HW.out) il HE.out).mono ?_
              rintro e w1 ⟨A, c, rfl, ho, hb⟩
              obtain ⟨HT, f3', f4', y3', y4', HO⟩ := bx_call HW4.out.drew ho hb
              clear ho hb
              go_simp
              refine HK.out _ _ ⟨⟨y3', y4'⟩, till_last (by kernel_rfl) (by kernel_rfl) (any_three (i := 16) (j := 17) (k := 18) rfl rfl rfl (by kernel_rfl) ?_)⟩
              clear HK y3 y4 f3 f4
              go_wp2_with fail
              go_meet
              exact ⟨A, c, ownsRow_setCell_below (ownsRow_setCell_below HO.out (by simp) _) (by simp) _, bx_min HM.out ((HT.out.set3 ba 200 bc).set4 A q.length c)⟩
            · have HE : Hid (5 = q.length) := by have := HQ.out; exact (by omega : 5 = q.length)
              have HM : Hid (200 = min bl 200) := (by omega : 200 = min bl 200)
              have i0 : ((200 : Int) < (bl : Int)) = True := by simp; omega
              have i1 : ((5 : Int) < (il : Int)) = True := by simp; omega
              have i2 : 200 ≤ bc := by omega
              have i3 : (200 : Int) ≤ (bc : Int) := by omega
              have i4 : 5 ≤ ic := by omega
              have i5 : (5 : Int) ≤ (ic : Int) := by omega
              refine region_till 16 (fun W => W.cell? ⟨w.heap.size, 3, none⟩ = some (.slice ba bl bc) ∧ W.cell? ⟨w.heap.size, 4, none⟩ = some (.slice ia il ic)) (by kernel_rfl) ?_
              have hS0 : wc.drew.cell? ⟨w.heap.size, 3, none⟩ = some (.slice ba bl bc) ∧ wc.drew.cell? ⟨w.heap.size, 4, none⟩ = some (.slice ia il ic) := ⟨y3, y4⟩
              refine till_take_free (i := 0) (v := ?tv4x0) rfl (by kernel_rfl) (by kernel_rfl) (by kernel_rfl) (by kernel_rfl) (fun _ _ _ h => h) hS0 (Or.inl ⟨by rfl, ?ty4x0⟩) ?tr4x0
              case ty4x0 => intro W hW; go_simp; try with_reducible rfl
              simp only [Act.put, List.setIfInBounds_toArray, List.set_cons_zero, List.set_cons_succ]
              refine till_take (i := 1) (v := ?tv4x1) rfl (by kernel_rfl) (by kernel_rfl) (by kernel_rfl) (by kernel_rfl) (fun _ _ _ h => h) hS0 (Or.inl ⟨by rfl, ?ty4x1⟩) ?tr4x1
              case ty4x1 => intro W hW; obtain ⟨z3, z4⟩ := hW; go_simp; try with_reducible rfl
              simp only [Act.put, List.setIfInBounds_toArray, List.set_cons_zero, List.set_cons_succ]
              refine till_take_free (i := 2) (v := ?tv4x2) rfl (by kernel_rfl) (by kernel_rfl) (by kernel_rfl) (by kernel_rfl) (fun _ _ _ h => h) hS0 (Or.inl ⟨by rfl, ?ty4x2⟩) ?tr4x2
              case ty4x2 => intro W hW; go_simp; try with_reducible rfl
              simp only [Act.put, List.setIfInBounds_toArray, List.set_cons_zero, List.set_cons_succ]
              refine till_take (i := 3) (v := ?tv4x3) rfl (by kernel_rfl) (by kernel_rfl) (by kernel_rfl) (by kernel_rfl) (fun _ _ _ h => h) hS0 (Or.inl ⟨by rfl, ?ty4x3⟩) ?tr4x3
              case ty4x3 => intro W hW; obtain ⟨z3, z4⟩ := hW; go_simp; try with_reducible rfl
              simp only [Act.put, List.setIfInBounds_toArray, List.set_cons_zero, List.set_cons_succ]
              refine till_take_free (i := 4) (v := ?tv4x4) rfl (by kernel_rfl) (by kernel_rfl) (by kernel_rfl) (by kernel_rfl) (fun _ _ _ h => h) hS0 (Or.inl ⟨by rfl, ?ty4x4⟩) ?tr4x4
              case ty4x4 => intro W hW; go_simp; try with_reducible rfl
              simp only [Act.put, List.setIfInBounds_toArray, List.set_cons_zero, List.set_cons_succ]
              refine till_take_free (i := 5) (v := ?tv4x5) rfl (by kernel_rfl) (by kernel_rfl) (by kernel_rfl) (by kernel_rfl) (fun _ _ _ h => h) hS0 (Or.inl ⟨by rfl, ?ty4x5⟩) ?tr4x5
              case ty4x5 => intro W hW; go_simp; try with_reducible rfl
              simp only [Act.put, List.setIfInBounds_toArray, List.set_cons_zero, List.set_cons_succ]
              refine till_take_free (i := 6) (v := ?tv4x6) rfl (by kernel_rfl) (by kernel_rfl) (by kernel_rfl) (by kernel_rfl) (fun _ _ _ h => h) hS0 (Or.inl ⟨by rfl, ?ty4x6⟩) ?tr4x6
              case ty4x6 => intro W hW; go_simp; try with_reducible rfl
              simp only [Act.put, List.setIfInBounds_toArray, List.set_cons_zero, List.set_cons_succ]
              refine till_take_free (i := 7) (v := ?tv4x7) rfl (by kernel_rfl) (by kernel_rfl) (by kernel_rfl) (by kernel_rfl) (fun _ _ _ h => h) hS0 (Or.inl ⟨by rfl, ?ty4x7⟩) ?tr4x7
              case ty4x7 => intro W hW; go_simp; try with_reducible rfl
              simp only [Act.put, List.setIfInBounds_toArray, List.set_cons_zero, List.set_cons_succ]
              refine till_take (i := 8) (v := ?tv4x8) rfl (by kernel_rfl) (by kernel_rfl) (by kernel_rfl) (by kernel_rfl) (fun _ _ _ h => h) hS0 (Or.inl ⟨by rfl, ?ty4x8⟩) ?tr4x8
              case ty4x8 => intro W hW; obtain ⟨z3, z4⟩ := hW; go_simp; try with_reducible rfl
              simp only [Act.put, List.setIfInBounds_toArray, List.set_cons_zero, List.set_cons_succ]
              refine till_take_free (i := 9) (v := ?tv4x9) rfl (by kernel_rfl) (by kernel_rfl) (by kernel_rfl) (by kernel_rfl) (fun _ _ _ h => h) hS0 (Or.inl ⟨by rfl, ?ty4x9⟩) ?tr4x9
              case ty4x9 => intro W hW; go_simp; try with_reducible rfl
              simp only [Act.put, List.setIfInBounds_toArray, List.set_cons_zero, List.set_cons_succ]
              refine till_take (i := 10) (v := ?tv4x10) rfl (by kernel_rfl) (by kernel_rfl) (by kernel_rfl) (by kernel_rfl) (fun _ _ _ h => h) hS0 (Or.inl ⟨by rfl, ?ty4x10⟩) ?tr4x10
              case ty4x10 => intro W hW; obtain ⟨z3, z4⟩ := hW; go_simp; try with_reducible rfl
              simp only [Act.put, List.setIfInBounds_toArray, List.set_cons_zero, List.set_cons_succ]
              refine till_take_free (i := 11) (v := ?tv4x11) rfl (by kernel_rfl) (by kernel_rfl) (by kernel_rfl) (by kernel_rfl) (fun _ _ _ h => h) hS0 (Or.inl ⟨by rfl, ?ty4x11⟩) ?tr4x11
              case ty4x11 => intro W hW; go_simp; try with_reducible rfl
              simp only [Act.put, List.setIfInBounds_toArray, List.set_cons_zero, List.set_cons_succ]
              refine till_take_free (i := 12) (v := ?tv4x12) rfl (by kernel_rfl) (by kernel_rfl) (by kernel_rfl) (by kernel_rfl) (fun _ _ _ h => h) hS0 (Or.inl ⟨by rfl, ?ty4x12⟩) ?tr4x12
              case ty4x12 => intro W hW; go_simp; try with_reducible rfl
              simp only [Act.put, List.setIfInBounds_toArray, List.set_cons_zero, List.set_cons_succ]
              refine till_take_free (i := 13) (v := ?tv4x13) rfl (by kernel_rfl) (by kernel_rfl) (by kernel_rfl) (by kernel_rfl) (fun _ _ _ h => h) hS0 (Or.inl ⟨by rfl, ?ty4x13⟩) ?tr4x13
              case ty4x13 => intro W hW; go_simp; try with_reducible rfl
              simp only [Act.put, List.setIfInBounds_toArray, List.set_cons_zero, List.set_cons_succ]
              refine till_take_free (i := 15) (v := ?tv4x15) rfl (by kernel_rfl) (by kernel_rfl) (by kernel_rfl) (by kernel_rfl) (fun _ _ _ h => h) hS0 (Or.inl ⟨by rfl, ?ty4x15⟩) ?tr4x15
              case ty4x15 => intro W hW; go_simp; try with_reducible rfl
              simp only [Act.put, List.setIfInBounds_toArray, List.set_cons_zero, List.set_cons_succ]
              refine till_step (i := 14) (by kernel_rfl) rfl (fun K hK => ?_)
              have HK := Lib.hid hK
              clear hK hS0
              go_simp
              refine (HC.out _ (below_drew HW.out) 5 HE.out).mono ?_
              rintro e w1 ⟨A, c, rfl, ho, hb⟩
              obtain ⟨HT, f3', f4', y3', y4', HO⟩ := bx_call HW4.out.drew ho hb
              clear ho hb
              go_simp
              refine HK.out _ _ ⟨⟨y3', y4'⟩, till_last (by kernel_rfl) (by kernel_rfl) (any_three (i := 16) (j := 17) (k := 18) rfl rfl rfl (by kernel_rfl) ?_)⟩
              clear HK y3 y4 f3 f4
              go_wp2_with fail
              go_meet
              exact ⟨A, c, ownsRow_setCell_below (ownsRow_setCell_below HO.out (by simp) _) (by simp) _, bx_min HM.out ((HT.out.set3 ba 200 bc).set4 A q.length c)⟩
        case rest =>
          obtain ⟨A, c, HO, HW5⟩ := hcut
          have hq5 : q.length ≤ 5 := by have := HQ.out; omega
          clear HW4 HR HIN HQ
          have HF : Hid (FRow w W0 wc.heap.size h (IntKind.i64.wrap (deep + 1)) (1 + (x : Int)) kf n ba (min bl 200) bc A c q 0 wc) := FRow.start HO.out HW5.out
          have HG2 : Hid (w.heap.size + 2 ≤ wc.heap.size) := blk_lt HW5.out.out
          have HG : Hid (∀ g, A = some ⟨g, 0, none⟩ → g < wc.heap.size) := fun g e => (HO.out.lt g (by rw [e]; rfl)).2
          obtain ⟨y0, y1, y2, y3, y4, yf, yz⟩ := HW5.out.cells
          clear y0 y1 y2 y3 yf yz HO HW5
          go_wp2_with fail
          generalize hG : wc.heap.size = G at HF HG HG2
          clear y4 hG
          go_loopw [46] (fun i wr => ∃ j : Nat, j ≤ q.length ∧ i = .int .i64 j ∧ Hid (FRow w W0 G h (IntKind.i64.wrap (deep + 1)) (1 + (x : Int)) kf n ba (min bl 200) bc A c q j wr)) (fun i _ => q.length - (intOf i).toNat)
          case atStart => exact ⟨0, Nat.zero_le _, rfl, HF⟩
          case round =>
            obtain ⟨j, hj, rfl, HI⟩ := hrel
            clear HF
            by_cases hlt : j < q.length
            · obtain ⟨g, y, rfl, hmem, hfz, e0, e1, e2, e3, e4, y4, hput⟩ := HI.out.at hlt
              have HFZ := Lib.hid hfz
              have HPUT := Lib.hid (hput HW0.out (HG.out g rfl))
              have HBW := Lib.hid HI.out.bel
              have HCY := Lib.hid fun W hW => HIH.out y hmem W hW (IntKind.i64.wrap (deep + 1)) (wrap_i64 _).1 (wrap_i64 _).2
              clear hfz hput hmem
              have j0 : (0 : Int) ≤ (j : Int) := by omega
              have j1 : (j : Int) < (q.length : Int) := by omega
              go_upto_region 9 with (fail)
              -- REGION 9
              refine region_till 11 (fun W => W.cell? ⟨w.heap.size, 4, none⟩ = some (.slice (some ⟨g, 0, none⟩) q.length c) ∧ W.cell? ⟨g, j * 5, none⟩ = some (.int .i64 y.num) ∧ W.cell? ⟨g, j * 5 + 1, none⟩ = some (.int .i64 y.kind) ∧ W.cell? ⟨g, j * 5 + 2, none⟩ = some (.int .u64 y.n) ∧ W.cell? ⟨g, j * 5 + 3, none⟩ = some (.slice y.ba y.bytes.length y.bc) ∧ W.cell? ⟨g, j * 5 + 4, none⟩ = some (.slice y.ia y.ins.length y.ic)) (by kernel_rfl) ?_
              have hS0 : wr.drew.cell? ⟨w.heap.size, 4, none⟩ = some (.slice (some ⟨g, 0, none⟩) q.length c) ∧ wr.drew.cell? ⟨g, j * 5, none⟩ = some (.int .i64 y.num) ∧ wr.drew.cell? ⟨g, j * 5 + 1, none⟩ = some (.int .i64 y.kind) ∧ wr.drew.cell? ⟨g, j * 5 + 2, none⟩ = some (.int .u64 y.n) ∧ wr.drew.cell? ⟨g, j * 5 + 3, none⟩ = some (.slice y.ba y.bytes.length y.bc) ∧ wr.drew.cell? ⟨g, j * 5 + 4, none⟩ = some (.slice y.ia y.ins.length y.ic) := ⟨y4, e0, e1, e2, e3, e4⟩
              clear y4 e0 e1 e2 e3 e4
              refine till_take_free (i := 0) (v := ?tv9x0) rfl (by kernel_rfl) (by kernel_rfl) (by kernel_rfl) (by kernel_rfl) (fun _ _ _ h => h) hS0 (Or.inl ⟨by rfl, ?ty9x0⟩) ?tr9x0
              case ty9x0 => intro W hW; go_simp; try with_reducible rfl
              simp only [Act.put, List.setIfInBounds_toArray, List.set_cons_zero, List.set_cons_succ]
              refine till_take (i := 1) (v := ?tv9x1) rfl (by kernel_rfl) (by kernel_rfl) (by kernel_rfl) (by kernel_rfl) (fun _ _ _ h => h) hS0 (Or.inl ⟨by rfl, ?ty9x1⟩) ?tr9x1
              case ty9x1 => intro W hW; obtain ⟨z, z0, z1, z2, z3, z4⟩ := hW; go_simp; try with_reducible rfl
              simp only [Act.put, List.setIfInBounds_toArray, List.set_cons_zero, List.set_cons_succ]
              refine till_take_free (i := 2) (v := ?tv9x2) rfl (by kernel_rfl) (by kernel_rfl) (by kernel_rfl) (by kernel_rfl) (fun _ _ _ h => h) hS0 (Or.inl ⟨by rfl, ?ty9x2⟩) ?tr9x2
              case ty9x2 => intro W hW; go_simp; try with_reducible rfl
              simp only [Act.put, List.setIfInBounds_toArray, List.set_cons_zero, List.set_cons_succ]
              refine till_take_free (i := 3) (v := ?tv9x3) rfl (by kernel_rfl) (by kernel_rfl) (by kernel_rfl) (by kernel_rfl) (fun _ _ _ h => h) hS0 (Or.inl ⟨by rfl, ?ty9x3⟩) ?tr9x3
              case ty9x3 => intro W hW; go_simp; try with_reducible rfl
              simp only [Act.put, List.setIfInBounds_toArray, List.set_cons_zero, List.set_cons_succ]
              refine till_take (i := 4) (v := ?tv9x4) rfl (by kernel_rfl) (by kernel_rfl) (by kernel_rfl) (by kernel_rfl) (fun _ _ _ h => h) hS0 (Or.inl ⟨by rfl, ?ty9x4⟩) ?tr9x4
              case ty9x4 => intro W hW; obtain ⟨z, z0, z1, z2, z3, z4⟩ := hW; go_simp; try with_reducible rfl
              simp only [Act.put, List.setIfInBounds_toArray, List.set_cons_zero, List.set_cons_succ]
              refine till_take_free (i := 5) (v := ?tv9x5) rfl (by kernel_rfl) (by kernel_rfl) (by kernel_rfl) (by kernel_rfl) (fun _ _ _ h => h) hS0 (Or.inl ⟨by rfl, ?ty9x5⟩) ?tr9x5
              case ty9x5 => intro W hW; go_simp; try with_reducible rfl
              simp only [Act.put, List.setIfInBounds_toArray, List.set_cons_zero, List.set_cons_succ]
              refine till_take_free (i := 6) (v := ?tv9x6) rfl (by kernel_rfl) (by kernel_rfl) (by kernel_rfl) (by kernel_rfl) (fun _ _ _ h => h) hS0 (Or.inl ⟨by rfl, ?ty9x6⟩) ?tr9x6
              case ty9x6 => intro W hW; go_simp; try with_reducible rfl
              simp only [Act.put, List.setIfInBounds_toArray, List.set_cons_zero, List.set_cons_succ]
              refine till_take (i := 7) (v := ?tv9x7) rfl (by kernel_rfl) (by kernel_rfl) (by kernel_rfl) (by kernel_rfl) (fun _ _ _ h => h) hS0 (Or.inl ⟨by rfl, ?ty9x7⟩) ?tr9x7
              case ty9x7 => intro W hW; obtain ⟨z, z0, z1, z2, z3, z4⟩ := hW; go_simp; try with_reducible rfl
              simp only [Act.put, List.setIfInBounds_toArray, List.set_cons_zero, List.set_cons_succ]
              refine till_take_free (i := 8) (v := ?tv9x8) rfl (by kernel_rfl) (by kernel_rfl) (by kernel_rfl) (by kernel_rfl) (fun _ _ _ h => h) hS0 (Or.inl ⟨by rfl, ?ty9x8⟩) ?tr9x8
              case ty9x8 => intro W hW; go_simp; try with_reducible rfl
              simp only [Act.put, List.setIfInBounds_toArray, List.set_cons_zero, List.set_cons_succ]
              refine till_take_free (i := 9) (v := ?tv9x9) rfl (by kernel_rfl) (by kernel_rfl) (by kernel_rfl) (by kernel_rfl) (fun _ _ _ h => h) hS0 (Or.inl ⟨by rfl, ?ty9x9⟩) ?tr9x9
              case ty9x9 => intro W hW; go_simp; try with_reducible rfl
              simp only [Act.put, List.setIfInBounds_toArray, List.set_cons_zero, List.set_cons_succ]
              refine till_step (i := 10) (by kernel_rfl) rfl (fun K hK => ?_)
              have HK := Lib.hid hK
              have HS0 := Lib.hid hS0
              clear hK hS0
              go_simp
              refine (HCY.out _ (below_drew HBW.out)).mono ?_
              rintro e w1 ⟨t, rfl, ht, hf, hb⟩
              have HP := Lib.hid (HPUT.out w1 t (Below.trans (below_drew (Below.refl _ _)) hb) ht hf)
              have hfw := HFZ.out w1 (Below.trans (below_drew (Below.refl _ _)) hb)
              have f0 := hfw (j * 5)
              have f1 := hfw (j * 5 + 1)
              have f2 := hfw (j * 5 + 2)
              have f3 := hfw (j * 5 + 3)
              have f4 := hfw (j * 5 + 4)
              have HB1 := Lib.hid hb
              clear ht hf hb hfw
              obtain ⟨y4', e0', e1', e2', e3', e4'⟩ := HS0.out
              replace y4' := pw_cell_below HB1.out y4'
              replace e0' := pw_cell_below HB1.out e0'
              replace e1' := pw_cell_below HB1.out e1'
              replace e2' := pw_cell_below HB1.out e2'
              replace e3' := pw_cell_below HB1.out e3'
              replace e4' := pw_cell_below HB1.out e4'
              go_simp
              refine HK.out _ _ ⟨⟨y4', e0', e1', e2', e3', e4'⟩, till_last (by kernel_rfl) (by kernel_rfl) (any_two (i := 11) (j := 12) rfl rfl (by kernel_rfl) ?_)⟩
              clear HK HS0 HB1
              go_wp2_with fail
              exact ⟨⟨j + 1, by omega, by go_num, HP⟩, by simp [intOf]; omega⟩
            · obtain rfl : j = q.length := by omega
              obtain ⟨y0, y1, y2, y3, y4, yf, yz⟩ := HI.out.box
              obtain ⟨z0, z1, z2, z3, z4, zf⟩ := HI.out.ans
              have f0 := zf 0
              have f1 := zf 1
              have f2 := zf 2
              have f3 := zf 3
              have f4 := zf 4
              clear yf zf yz
              obtain ⟨r0, r1, r2, r3, r4, rfar, rbel⟩ := HI.out.done (.int .i64 (1 + (x : Int))) (.int .i64 kf) (.int .u64 n) (.slice ba (min bl 200) bc) (.slice A q.length c)
              have R0 := Lib.hid r0
              have R1 := Lib.hid r1
              have R2 := Lib.hid r2
              have R3 := Lib.hid r3
              have R4 := Lib.hid r4
              have RF := Lib.hid rfar
              have RB := Lib.hid rbel
              clear r0 r1 r2 r3 r4 rfar rbel
              go_wp2_with fail
              generalize (((((wr.setCell ⟨w.heap.size + 1, 0, none⟩ (.int .i64 (1 + (x : Int)))).setCell ⟨w.heap.size + 1, 1, none⟩ (.int .i64 kf)).setCell ⟨w.heap.size + 1, 2, none⟩ (.int .u64 n)).setCell ⟨w.heap.size + 1, 3, none⟩ (.slice ba (min bl 200) bc)).setCell ⟨w.heap.size + 1, 4, none⟩ (.slice A q.length c)) = V at *
              have r0 := R0.out
              have r1 := R1.out
              have r2 := R2.out
              have r3 := R3.out
              have r4 := R4.out
              refine bodyPost_ret (v := .agg #[.int .i64 (1 + (x : Int)), .int .i64 kf, .int .u64 n, .slice ba (min bl 200) bc, .slice A q.length c]) (by simp [results, Try.results16, r0, r1, r2, r3, r4, go_sem]) rfl ?_
              obtain ⟨hB, b8, hbn, hbh, n0, n1⟩ := HEND.out
              obtain ⟨t', p1, p2, p3, p4, p5, p6, p7, p8, p9, hok, hfit⟩ := HI.out.ended hB HG2.out HG.out HW0.out b8 (by omega) (by omega) hbn hbh (by omega) (by omega) n0 n1 HKF.out hq5
              have hkf := HKF.out
              have hk6 := HK6.out
              have hx1 : 1 ≤ t'.num := by rw [p1]; omega
              have hx2 : t'.num ≤ 536870911 := by rw [p1]; omega
              have hx3 : t'.bytes.length ≤ 200 := by rw [p5]; exact Nat.min_le_right _ _
              have hx4 : t'.ins.length ≤ 5 := by rw [p8]; exact hq5
              rw [← p2] at hkf hk6 hfit
              refine ⟨t', by rw [p1, p2, p3, p4, p5, p6, p7, p8, p9], hok V RF.out, fun hd => fit_end hd d1 hx1 hx2 hkf hk6 hx3 hx4 hfit, RB.out⟩

theorem row_take {q : List Tr} {n j : Nat} {u : Value} (h : ((q.take n).flatMap cellsT)[j]? = some u) : (q.flatMap cellsT)[j]? = some u := by
  rw [← List.take_append_drop n q, List.flatMap_append, List.getElem?_append_left (List.getElem?_eq_some_iff.1 h).1]
  exact h

/-- field, at any tree of fields. -/
theorem field_tree : ∀ (h : Nat) {W0 : Nat} {t : Tr} (w : World), W0 ≤ w.heap.size → OkT (· < W0) w h t → ∀ deep : Int, -9223372036854775808 ≤ deep → deep ≤ 9223372036854775807 →
    Calls Try.prog 16 #[.agg #[.int .i64 t.num, .int .i64 t.kind, .int .u64 t.n, .slice t.ba t.bytes.length t.bc, .slice t.ia t.ins.length t.ic], .int .i64 deep] w (FPost W0 h deep w) := by
  intro h
  induction h with
  | zero => intro W0 t w _ hO; exact hO.elim
  | succ h ih =>
    intro W0 t w hW0 hO deep d0 d1
    obtain ⟨ho, hin⟩ := hO
    refine field_walk w t.num t.kind t.n ho.m0 ho.m1 ho.k0 ho.k1 t.ba t.bytes.length t.bc t.ia t.ins.length t.ic deep d0 d1 ho.bl ho.il ho.inn W0 h (t.ins.take 5) hW0 (by simp; omega) ?_ ?_ (t.bytes.take 200) ⟨by simp; omega, fun x hx => ho.b8 x (List.mem_of_mem_take hx), ho.bn, ?_, ho.n0, ho.n1⟩
    · intro h0
      obtain ⟨ad, e, _, hc⟩ := ho.ih (by simp at h0; omega)
      exact ⟨ad, e, fun j u hu => hc j u (row_take hu)⟩
    · intro y hy W hW dp p0 p1
      exact ih W (Nat.le_trans hW0 hW.size) ((hin y (List.mem_of_mem_take hy)).below hW) dp p0 p1
    · intro h0
      obtain ⟨ad, e, hp, hc⟩ := ho.bh (by simp at h0; omega)
      refine ⟨ad, e, hp, fun j hj => ?_⟩
      simp at hj
      rw [hc j (by omega)]
      simp [at8, List.getD_eq_getElem?_getD, show j < 200 by omega]

end Go.Proofs.Ytobponaenabpgaa.Rd
