/- What is read of kinds, and the row of what has been read. -/
import Derived.Test.YtobponaenabpgaaRdDec2
import Derived.Maps.AppendAt
namespace Go.Proofs.Ytobponaenabpgaa.Rd
open Go.ChangeShapes Go.WideShapes Go.ChangeAt Go.RowKit Sv Go.Proofs.YtobponaenabpgaaW Go.Proofs.YtobponaenabpgaaW.PrintWords
set_option linter.unusedVariables false

structure It where
  kind : Nat
  n : Int
  bytes : List Int

/-- One value of a kind, and how many bytes it has. -/
def one (k : Nat) (r : List Int) : Option (It × Nat) := if k ≤ 4 then (num k r).map (fun p => (⟨k, p.1, []⟩, p.2)) else (rb r).map (fun p => (⟨k, 0, p.1⟩, p.2))

/-- Values of kinds, and what is left. -/
def many : List Nat → List Int → Option (List It × List Int)
  | [], r => some ([], r)
  | k :: ks, r => (one k r).bind fun p => (many ks (r.drop p.2)).map fun q => (p.1 :: q.1, q.2)

def Ahead (ks : List Nat) (b : List Int) (its : List It) (j i : Nat) : Prop := many ks b = (many (ks.drop j) (b.drop i)).map fun q => (its ++ q.1, q.2)

theorem ahead_start (ks : List Nat) (b : List Int) : Ahead ks b [] 0 0 := by
  unfold Ahead
  simp
theorem ahead_end {ks : List Nat} {b : List Int} {its : List It} {j i : Nat} (h : Ahead ks b its j i) (hj : j = ks.length) : many ks b = some (its, b.drop i) := by
  unfold Ahead at h
  subst hj
  simpa [many] using h
theorem ahead_step {ks : List Nat} {b : List Int} {its : List It} {j i : Nat} (h : Ahead ks b its j i) (hj : j < ks.length) {it : It} {m : Nat} (ho : one (ks[j]) (b.drop i) = some (it, m)) : Ahead ks b (its ++ [it]) (j + 1) (i + m) := by
  unfold Ahead at h ⊢
  rw [h, List.drop_eq_getElem_cons hj]
  simp [many, ho, List.drop_drop, Option.map_map, Function.comp_def]
theorem ahead_none {ks : List Nat} {b : List Int} {its : List It} {j i : Nat} (h : Ahead ks b its j i) (hj : j < ks.length) (ho : one (ks[j]) (b.drop i) = none) : many ks b = none := by
  unfold Ahead at h
  rw [h, List.drop_eq_getElem_cons hj]
  simp [many, ho]

theorem info62 : (Try.prog.info? 62).map (fun i => (i.zero, i.size, i.bytes)) = some (some (.agg #[.int .i64 0, .int .u64 0, .slice none 0 0]), 3, 40) := by kernel_rfl

def row3 (x : It × Option Addr × Nat) : List Value := [.int .i64 x.1.kind, .int .u64 x.1.n, .slice x.2.1 x.1.bytes.length x.2.2]

/-- The row of values that the call has made. -/
def Items (w : World) (base : Nat) (v : Value) (its : List It) : Prop := ∃ q : List (It × Option Addr × Nat), q.map (·.1) = its ∧ w.ownsRow base 62 3 v its.length (q.flatMap row3) ∧ ∀ x ∈ q, ByteBlk w base x.2.1 x.1.bytes

theorem Items.nil (w : World) (base : Nat) : Items w base (.slice none 0 0) [] := ⟨[], rfl, own_nil _ _ _ _, fun x hx => by simp at hx⟩

theorem ByteBlk.keep {w w1 : World} {base : Nat} {a : Option Addr} {l : List Int} (h : ByteBlk w base a l) (hm : ∀ g cs fz, base ≤ g → w.heap[g]? = some (.cells cs 5 fz) → w1.heap[g]? = w.heap[g]?) : ByteBlk w1 base a l :=
  ⟨h.1, fun hn => by
    obtain ⟨g, cs, fz, e, hb, hh, hc⟩ := h.2 hn
    exact ⟨g, cs, fz, e, hb, (hm g cs fz hb hh).trans hh, hc⟩⟩

theorem heap_lt {w : World} {g : Nat} {o : Obj} (h : w.heap[g]? = some o) : g < w.heap.size := (Array.getElem?_eq_some_iff.1 h).1

theorem ByteBlk.lower {w : World} {base base' : Nat} {a : Option Addr} {l : List Int} (h : ByteBlk w base a l) (hb : base' ≤ base) : ByteBlk w base' a l :=
  ⟨h.1, fun hn => by
    obtain ⟨g, cs, fz, e, hg, hh, hc⟩ := h.2 hn
    exact ⟨g, cs, fz, e, by omega, hh, hc⟩⟩

theorem Items.grown {w w1 : World} {base B : Nat} {v : Value} {its : List It} (h : Items w base v its) (hg : w.grownBy w1 (some B)) (hB : B < base) : Items w1 base v its := by
  obtain ⟨q, hq, ho, hb⟩ := h
  refine ⟨q, hq, ho.kept hg ?_, fun x hx => (hb x hx).keep fun g cs fz hbg hh => hg.block g (heap_lt hh) (by simp; omega)⟩
  rcases hv : v.ownBlock with _ | k
  · exact .inl rfl
  · have := ho.lt k hv
    exact .inr (by simp; omega)

theorem Items.below {w w1 : World} {base : Nat} {v : Value} {its : List It} (h : Items w base v its) (hg : Below w.heap.size w w1) : Items w1 base v its := by
  obtain ⟨q, hq, ho, hb⟩ := h
  exact ⟨q, hq, pw_own_below ho hg, fun x hx => (hb x hx).keep fun g cs fz hbg hh => hg.block g (heap_lt hh)⟩

theorem Items.push {w w1 : World} {base : Nat} {v v1 : Value} {its : List It} {q : List (It × Option Addr × Nat)} {x : It × Option Addr × Nat} (hq : q.map (·.1) = its) (ho : w.ownsRow base 62 3 v its.length (q.flatMap row3))
    (hb : ∀ x ∈ q, ByteBlk w base x.2.1 x.1.bytes) (hx : ByteBlk w base x.2.1 x.1.bytes) (hg : w.grownBy w1 v.ownBlock) (h1 : w1.ownsRow base 62 3 v1 (its.length + 1) (q.flatMap row3 ++ row3 x)) : Items w1 base v1 (its ++ [x.1]) := by
  have key : ∀ g cs fz, base ≤ g → w.heap[g]? = some (.cells cs 5 fz) → w1.heap[g]? = w.heap[g]? := by
    intro g cs fz hbg hh
    refine hg.block g (heap_lt hh) ?_
    intro e
    obtain ⟨cells, hc⟩ := own_typed ho g e.symm
    rw [hh] at hc
    simp at hc
  refine ⟨q ++ [x], by simp [hq], ?_, fun y hy => ?_⟩
  · rw [List.length_append, List.flatMap_append]
    simpa using h1
  · rcases List.mem_append.1 hy with hy | hy
    · exact (hb y hy).keep key
    · simp at hy; subst hy; exact hx.keep key

/-- append(l, i): behind 'at_builtin'. -/
theorem item_append {ops : Array Oper} {rest : List Oper} {o : Oper} {a : Act} {Q : Exit → Act → World → Prop} {W : World} (base : Nat) (hgd : o.guard = none) (s x : Operand)
    (ho : o.op = .call { callee := .builtin .append, args := #[s, x], argTypes := #[54, 54] })
    (v : Value) (its : List It) (y : It × Option Addr × Nat) (hs : a.eval s = v) (nb : Nat) (hx : a.eval x = .slice (some ⟨nb, 0, none⟩) 1 1) (hnb : nb = W.heap.size)
    (HI : Items W base v its) (HY : ByteBlk W base y.2.1 y.1.bytes) (hbase : base ≤ W.heap.size) (hl : its.length ≤ 1000)
    (h : ∀ v1 w1, Items w1 base v1 (its ++ [y.1]) → Below base W w1 → wpList Try.prog ops Q rest (a.put o.dst v1) w1) :
    wpList Try.prog ops Q (o :: rest) a (W.alloc (.cells #[.int .i64 y.1.kind, .int .u64 y.1.n, .slice y.2.1 y.1.bytes.length y.2.2] 62)) := by
  subst hnb
  obtain ⟨i0, hi, hzz⟩ := Option.map_eq_some_iff.1 info62
  simp only [Prod.mk.injEq] at hzz
  obtain ⟨hz0, hz1, hz2⟩ := hzz
  obtain ⟨q, hq, hown, hb⟩ := HI
  have hA : Below W.heap.size W (W.alloc (.cells #[.int .i64 y.1.kind, .int .u64 y.1.n, .slice y.2.1 y.1.bytes.length y.2.2] 62)) := (Below.refl _ _).alloc (Nat.le_refl _) _
  refine wpList_append_own_at _ hgd s x 54 ho base 62 i0 _ 3 40 Try.underlying54 hi hz0 hz1 hz2 rfl (by decide) v its.length (q.flatMap row3) hs (hown.alloc _) ⟨W.heap.size, 0, none⟩ 1 1 (row3 y) hx rfl
    (World.news_of_block (cs := #[.int .i64 y.1.kind, .int .u64 y.1.n, .slice y.2.1 y.1.bytes.length y.2.2]) (t := 62) (fr := (0, 0)) (heap_alloc_new W _)) (by simp [row3, Value.oneCell']) (by simp only [maxLen]; omega) (by omega) (by simp; omega) ?_
  intro v1 w1 hown1 hg _ _
  refine h v1 w1 (Items.push hq (hown.alloc _) (fun x hx => (hb x hx).keep fun g cs fz _ hh => hA.block g (heap_lt hh)) (HY.keep fun g cs fz _ hh => hA.block g (heap_lt hh)) hg hown1) ?_
  exact ((Below.refl base W).alloc hbase _).grown hg (by simp; omega) (fun k hk => (hown.lt k hk).1)

end Go.Proofs.Ytobponaenabpgaa.Rd
