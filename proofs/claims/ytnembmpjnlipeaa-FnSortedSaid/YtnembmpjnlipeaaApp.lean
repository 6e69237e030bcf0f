/- Rows of one's own: an append onto nothing as one step of a region that draws its order; what keeps a row. -/
import Derived.Test.YtnembmpjnlipeaaPost
import Derived.Maps.AppendAt
import Derived.RegionTactic
import Derived.OwnWalk
import Derived.Laws.Rows
import Derived.Lib.Hide
namespace Go.Proofs.Ytnembmpjnlipeaa.So
open Go.RowKit Go.Maps
set_option linter.unusedVariables false

theorem kept_below {w w1 : World} {base e size n : Nat} {v : Value} {xs : List Value} (h : w.ownsRow base e size v n xs) (hb : Below w.heap.size w w1) : w1.ownsRow base e size v n xs :=
  h.kept (row := none) ⟨hb.os, hb.tape, hb.output, hb.size, fun i hi _ => hb.block i hi⟩ (by cases v.ownBlock <;> simp)

theorem type_ne {w : World} {b b' e e' s s' n n' : Nat} {v v' : Value} {xs xs' : List Value} (h : w.ownsRow b e s v n xs) (h' : w.ownsRow b' e' s' v' n' xs') (hne : e ≠ e') : v.ownBlock = none ∨ v.ownBlock ≠ v'.ownBlock := by
  rcases h.2 with ⟨rfl, _⟩ | ⟨g, cap, cur, rfl, _, hh, _⟩
  · exact .inl rfl
  · refine .inr fun hk => ?_
    rcases h'.2 with ⟨rfl, _⟩ | ⟨g', cap', cur', rfl, _, hh', _⟩
    · simp [Value.ownBlock] at hk
    · have : g = g' := by simpa [Value.ownBlock] using hk
      subst this
      rw [hh] at hh'
      injection hh' with hh'
      injection hh' with _ ht
      exact hne ht

/-- A row is no block of another type. -/
theorem blk_ne {w : World} {b e s n t g : Nat} {v : Value} {xs : List Value} {cs : Array Value} (h : w.ownsRow b e s v n xs) (hg : w.heap[g]? = some (.cells cs t (0, 0))) (hne : e ≠ t) : v.ownBlock ≠ some g := by
  intro hk
  rcases h.2 with ⟨rfl, _⟩ | ⟨g', cap, cur, rfl, _, hh, _⟩
  · simp [Value.ownBlock] at hk
  · have : g' = g := by simpa [Value.ownBlock] using hk
    subst this
    rw [hh] at hg
    injection hg with hg
    injection hg with _ ht
    exact hne ht

theorem blk_below {w w1 : World} {g : Nat} {o : Obj} (h : w.heap[g]? = some o) (hb : Below w.heap.size w w1) : w1.heap[g]? = some o := (hb.block g (Array.getElem?_eq_some_iff.1 h).1).trans h

section
variable {P : Program} {ops : Array Oper} {o : Oper} {a : Act} {Q : Exit → Act → World → Prop} {K : Act → World → Prop}
/-- append([]T(nil), xs...). -/
theorem step_append_new {α : Type} (enc : α → Value) {W : World} (base : Nat) (hw : Region.wanted o (yielded ops a.tmps) = true) (x : Operand) (t e : TypeId)
    (ho : o.op = .call { callee := .builtin .append, args := #[.const (.slice none 0 0), x], argTypes := #[t, t] }) (z : Value) (bytes : Nat) (hzc : z.cells.size = 1) (hby : bytes ≤ 16)
    (hp : P.underlying t = some (.slice e)) (hinfo : (P.info? e).map (fun i => (i.zero, i.size, i.bytes)) = some (some z, 1, bytes)) (h1 : ∀ x, (enc x).oneCell' = true)
    (A : Option Addr) (m c : Nat) (l : List α) (hx : a.eval x = .slice A m c) (hl : l.length = m) (hm : m ≤ 100000) (hH : HoldsE enc W A l) (hn : A = none → c = 0) (hbase : base ≤ W.heap.size)
    (h : ∀ A1 c1 w1, Hid (w1.ownsRow base e 1 (.slice A1 m c1) m (l.map enc)) → Hid (Below W.heap.size W w1) → K (a.put o.dst (.slice A1 m c1)) w1) :
    if Region.wanted o (yielded ops a.tmps) = true then Oper.wp P o a W K Q else K (a.put o.dst undef) W := by
  obtain ⟨i0, hi, hzz⟩ := Option.map_eq_some_iff.1 hinfo
  simp only [Prod.mk.injEq] at hzz
  obtain ⟨hz0, hz1, hz2⟩ := hzz
  rw [if_pos hw]
  unfold Oper.wp execOp
  cases A with
  | none =>
    obtain rfl := hn rfl
    have hl0 : l = [] := by
      rcases Nat.eq_zero_or_pos l.length with h0 | h0
      · exact List.eq_nil_of_length_eq_zero h0
      · obtain ⟨g, off, e, _⟩ := hH h0
        cases e
    subst hl0
    simp only [List.length_nil] at hl
    subst hl
    have hr : (Builtin.append_ #[t, t] o.type #[.slice none 0 0, .slice none 0 0]).run P W = .ok (.slice none 0 0) W := by
      simp [Builtin.append_, run_underlying hp, sizeOf, typeInfo, hi, Builtin.lenOf, Builtin.firstCells]
    simp only [ho, resolve, invoke, builtin, Sem.run_bind, Sem.run_pure, Result.andThen_ok, List.map_toArray, List.map_cons, List.map_nil, Act.eval]
    simp only [Act.eval] at hx
    simp only [hx, hr]
    exact h none 0 W (World.ownsRow_nil _ _ _ _) (Below.refl _ _)
  | some ad =>
    have hcells : ∀ j u, (l.map enc)[j]? = some u → W.cell? (ad.add j) = some u := by
      intro j u hu
      have hj : j < l.length := by
        rcases Nat.lt_or_ge j l.length with h | h
        · exact h
        · simp [List.getElem?_eq_none h] at hu
      obtain ⟨g, off, e, hc⟩ := hH (by omega)
      cases e
      rw [Go.WideShapes.add_plain, hc j hj, ← hu]
      simp [hj]
    obtain ⟨v1, w1, hr, h2, h3, _, h5⟩ := run_append_own_at (P := P) W base t o.type e i0 z 1 bytes hp hi hz0 hz1 hz2 hzc (by omega) (.slice none 0 0) 0 [] (World.ownsRow_nil _ _ _ _) ad m c (l.map enc) (by simp [hl]) hcells
      (by intro u hu; obtain ⟨q, _, rfl⟩ := List.mem_map.1 hu; exact h1 q) (by simp only [maxLen]; omega) (by have := Nat.mul_le_mul (show 0 + m ≤ 100000 by omega) hby; omega) hbase
    simp only [ho, resolve, invoke, builtin, Sem.run_bind, Sem.run_pure, Result.andThen_ok, List.map_toArray, List.map_cons, List.map_nil, Act.eval]
    simp only [Act.eval] at hx
    simp only [hx, hr]
    rw [Nat.zero_add, List.nil_append] at h2
    obtain ⟨A1, c1, rfl⟩ : ∃ A1 c1, v1 = .slice A1 m c1 := by
      rcases h2.2 with ⟨rfl, rfl⟩ | ⟨g, cap, cur, rfl, _⟩
      · exact ⟨none, 0, rfl⟩
      · exact ⟨_, cap, rfl⟩
    exact h A1 c1 w1 h2 ⟨h3.os, h3.tape, h3.output, h3.size, fun i hi => h3.block i hi (by simp [Value.ownBlock])⟩
end

end Go.Proofs.Ytnembmpjnlipeaa.So
