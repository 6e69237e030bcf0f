/- FnWritten's walk: what its parts are told. -/
import Derived.Test.YtobponaenabpgaaWrImpl
import Derived.Test.YtobponaenabpgaaRdWalk
namespace Go.Proofs.Ytobponaenabpgaa.Rd
open Go.ChangeShapes Go.WideShapes Go.ChangeAt Go.RowKit Sv Go.Proofs.YtobponaenabpgaaW Go.Proofs.YtobponaenabpgaaW.PrintWords
set_option linter.unusedVariables false

theorem row_given {w wr : World} {base : Nat} {A : Option Addr} {c n : Nat} {q : List Raw} (hl : q.length = n) (hn : n ≤ 30) (hR : ∀ x ∈ q, RawOk w x) (hF : ∀ x ∈ q, FitR x) (ho : wr.ownsRow base 62 3 (.slice A n c) n (q.flatMap rowR)) (hB : Below w.heap.size w wr) : Given wr A q := by
  refine ⟨⟨by omega, fun x hx => holds_below (hR x hx).holds hB, fun h0 => ?_⟩, fun x hx => (hR x hx).below hB, hF, by omega⟩
  obtain ⟨g, rfl, _⟩ := own_form ho (by omega)
  exact ⟨_, rfl, ho.cells (g := g) rfl⟩

/-- What the law's first rows leave: the values of which it speaks. -/
def Fitted (w : World) (A : Option Addr) (n : Nat) (w' : World) : Prop := ∃ q, q.length = n ∧ Given w' A q ∧ Below w.heap.size w w'

theorem fit_at (w : World) (a : Option Addr) (cap : Nat) (Q : List Raw) (hc : Q.length ≤ cap) (hn : a = none → cap = 0) (h : InRow w a Q) (hR : ∀ x ∈ Q, RawOk w x) (W : World) (hW : Below w.heap.size w W) :
    Calls Try.prog 29 #[.slice a Q.length cap] W fun e w' => ∃ A c n, e = .returned (.slice A n c) ∧ n ≤ 30 ∧ Hid (Fitted w A n w') := by
  have hI : InRow W a (Q.take (min Q.length 30)) := by
    refine ⟨by have := h.1; simp; omega, fun x hx => holds_below (h.2.1 x (List.mem_of_mem_take hx)) hW, fun h0 => ?_⟩
    obtain ⟨ad, e, hc⟩ := (h.below hW).2.2 (by simp at h0; omega)
    refine ⟨ad, e, fun j u hu => hc j u ?_⟩
    have hsplit : (Q.flatMap rowR) = ((Q.take (min Q.length 30)).flatMap rowR) ++ ((Q.drop (min Q.length 30)).flatMap rowR) := by rw [← List.flatMap_append, List.take_append_drop]
    rw [hsplit, List.getElem?_append_left]
    · exact hu
    · exact (List.getElem?_eq_some_iff.1 hu).1
  refine (fit_any W a Q.length cap (Q.take (min Q.length 30)) (by simp) hc hn hI (fun x hx => (hR x (List.mem_of_mem_take hx)).below hW)).mono ?_
  rintro e w' ⟨A, c, n, rfl, hn30, q, hl, hq, hf, ho, hb⟩
  refine ⟨A, c, n, rfl, hn30, q, hl, row_given hl hn30 hq (fun x hx => ?_) ho hb, hW.trans (hb.mono hW.size)⟩
  obtain ⟨i, hi, rfl⟩ := List.getElem_of_mem hx
  exact hf i hi (by omega)

/-- What stands while the reference's bytes are laid end to end. -/
def Mid (w : World) (q : List Raw) (j : Nat) (v k : Value) (wr : World) : Prop :=
  Row8 w.heap.size wr v (encs' ((q.map itOf).take j)) ∧ wr.ownsRow w.heap.size 3 1 k j (nums .i64 ((q.take j).map fun x => x.kind)) ∧ Below w.heap.size w wr

theorem Mid.start (w : World) (q : List Raw) : Mid w q 0 (.slice none 0 0) (.slice none 0 0) w := ⟨own_nil _ _ _ _, own_nil _ _ _ _, Below.refl _ _⟩

theorem Mid.shape {w wr : World} {q : List Raw} {j : Nat} {v k : Value} (h : Mid w q j v k wr) : (∃ A m c, v = .slice A m c) ∧ ∃ A c, k = .slice A j c := ⟨own_any h.1, own_slice h.2.1⟩

/-- Behind the call of Written. -/
theorem Mid.call {w wr w2 : World} {q : List Raw} {j : Nat} {v k : Value} {o : Obj} {l : List Int} {v2 : Value} (h : Mid w q j v k wr) (hp : RowPost l (wr.alloc o) (.returned v2) w2) :
    ∃ A2 c2, v2 = .slice A2 l.length c2 ∧ ReadsInt w2 .u8 A2 l.length l ∧ Row8 w.heap.size w2 v (encs' ((q.map itOf).take j)) ∧ w2.ownsRow w.heap.size 3 1 k j (nums .i64 ((q.take j).map fun x => x.kind)) ∧ Below w.heap.size w w2 ∧
      ∀ cs t, o = .cells cs t → ∀ w3, w2.grownBy w3 v.ownBlock → ∀ i u, cs[i]? = some u → w3.cell? ⟨wr.heap.size, i, none⟩ = some u := by
  obtain ⟨v2', e, ho, hb⟩ := hp
  cases e
  obtain ⟨A2, c2, rfl, hr⟩ := own_reads ho
  have hA : Below wr.heap.size wr (wr.alloc o) := (Below.refl _ _).alloc (Nat.le_refl _) _
  have hb2 : Below wr.heap.size wr w2 := hA.trans (hb.mono hA.size)
  refine ⟨A2, c2, rfl, hr, pw_own_below h.1 hb2, pw_own_below h.2.1 hb2, h.2.2.trans (hb2.mono h.2.2.size), ?_⟩
  rintro cs t rfl w3 hg i u hu
  have hlt : wr.heap.size < (wr.alloc (.cells cs t)).heap.size := by simp
  have h1 : w2.heap[wr.heap.size]? = some (.cells cs t (0, 0)) := (hb.block _ hlt).trans (heap_alloc_new wr _)
  have h2 := blk_grown h1 hg (by
    intro e
    have := own_lt h.1 _ e.symm
    omega)
  rw [blk_cell h2]
  exact hu

/-- Behind the first append. -/
theorem Mid.want {w w2 w3 : World} {q : List Raw} {j : Nat} {v k v3 : Value} (hj : j < q.length) (h1 : Row8 w.heap.size w2 v (encs' ((q.map itOf).take j))) (h2 : w2.ownsRow w.heap.size 3 1 k j (nums .i64 ((q.take j).map fun x => x.kind))) (hb : Below w.heap.size w w2)
    (hg : w2.grownBy w3 v.ownBlock) (hb3 : Below w.heap.size w2 w3) (hs : w2.heap.size ≤ w3.heap.size) {l : List Int} (hl : l = encIt (q[j]).kind.toNat (q[j]).n (q[j]).bytes)
    (ho : w3.ownsRow w.heap.size 5 1 v3 (encs' ((q.map itOf).take j) ++ l).length (nums .u8 (encs' ((q.map itOf).take j) ++ l))) :
    Row8 w.heap.size w3 v3 (encs' ((q.map itOf).take (j + 1))) ∧ w3.ownsRow w.heap.size 3 1 k j (nums .i64 ((q.take j).map fun x => x.kind)) ∧ Below w.heap.size w w3 := by
  subst hl
  refine ⟨by rw [take_next hj]; exact ho, own_other h2 hg (own_type_ne h2 h1 (by decide)), hb.trans hb3⟩

/-- Behind the second append. -/
theorem Mid.kinds {w w3 w4 : World} {q : List Raw} {j : Nat} {v k k4 : Value} (hj : j < q.length) (h1 : Row8 w.heap.size w3 v (encs' ((q.map itOf).take (j + 1)))) (h2 : w3.ownsRow w.heap.size 3 1 k j (nums .i64 ((q.take j).map fun x => x.kind))) (hb : Below w.heap.size w w3)
    (hg : w3.grownBy w4 k.ownBlock) (hb4 : Below w.heap.size w3 w4) {y : Int} (hy : y = (q[j]).kind)
    (ho : w4.ownsRow w.heap.size 3 1 k4 ((q.take j).map (fun x => x.kind) ++ [y]).length (nums .i64 ((q.take j).map (fun x => x.kind) ++ [y]))) : Mid w q (j + 1) v k4 w4 := by
  subst hy
  have hl : ((q.take j).map (fun x => x.kind) ++ [(q[j]).kind]) = (q.take (j + 1)).map fun x => x.kind := by
    rw [List.take_succ_eq_append_getElem hj, List.map_append]; rfl
  rw [hl] at ho
  have hn : ((q.take (j + 1)).map fun x => x.kind).length = j + 1 := by simp; omega
  rw [hn] at ho
  exact ⟨own_other h1 hg (own_type_ne h1 h2 (by decide)), ho, hb.trans hb4⟩

theorem kinds_own {w wr : World} {q : List Raw} {A : Option Addr} {c : Nat} (hf : ∀ x ∈ q, FitR x) (h : wr.ownsRow w.heap.size 3 1 (.slice A q.length c) q.length (nums .i64 (q.map fun x => x.kind))) : Kinds wr A ((q.map itOf).map (·.kind)) := by
  refine ⟨fun k hk => ?_, fun h0 => ?_⟩
  · obtain ⟨y, hy, rfl⟩ := List.mem_map.1 hk
    obtain ⟨x, hx, rfl⟩ := List.mem_map.1 hy
    obtain ⟨⟨k, hk, e⟩, _⟩ := hf x hx
    simp only [itOf]; omega
  · simp at h0
    obtain ⟨g, rfl, _⟩ := own_form h h0
    refine ⟨_, rfl, fun j hj => ?_⟩
    simp at hj
    have := (own_at h (j : Int) (by omega) (by omega)).1
    rw [PrintWords.add_plain]
    obtain ⟨⟨k, hk, e⟩, _⟩ := hf _ (List.getElem_mem hj)
    simp only [Int.toNat_natCast, rd, List.getD_eq_getElem?_getD, List.getElem?_map, List.getElem?_eq_getElem hj, Option.map_some, Option.getD_some] at this
    rw [this]
    simp only [List.getElem_map, itOf, e]
    simp


end Go.Proofs.Ytobponaenabpgaa.Rd
