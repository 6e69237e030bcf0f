/- For every keys the law FnSorted returns true and its argument reads as before. No condition beyond the row's own.
   The frame of the row's proof was written after the one that the kit's proof-skeleton.mjs wrote for another law. -/
import Derived.Test.YtnembmpjnlipeaaLaw
import Derived.Test.YtnembmpjnlipeaaRows
import Derived.WalkKit
import Derived.ProofKit
import Derived.OpenShut
import Derived.ShutString
import Derived.ChangeOld
import Derived.Below
import Derived.SliceStrings
namespace Go.Proofs.Ytnembmpjnlipeaa.fnSorted
open Go.ChangeShapes Go.WideShapes Go.ChangeAt Go.RowKit
open _root_.Go.Proofs.Ytnembmpjnlipeaa.So
set_option linter.unusedVariables false

theorem own : ownKnob Try.prog.godebug = none := by kernel_rfl
theorem laidOut : laidOutB Try.prog = true := by kernel_rfl
theorem cells28 : Try.prog.cellsOf 28 = 5 := by kernel_rfl
theorem cells22 : Try.prog.cellsOf 22 = 1 := by kernel_rfl
theorem cells23 : Try.prog.cellsOf 23 = 1 := by kernel_rfl
theorem cells24 : Try.prog.cellsOf 24 = 1 := by kernel_rfl
theorem cells25 : Try.prog.cellsOf 25 = 1 := by kernel_rfl
theorem cells26 : Try.prog.cellsOf 26 = 1 := by kernel_rfl

theorem five_of {α : Type} {l : List α} (h : l.length = 5) : ∃ a b c d e, l = [a, b, c, d, e] := by
  rcases l with _ | ⟨a, _ | ⟨b, _ | ⟨c, _ | ⟨d, _ | ⟨e, _ | ⟨f, r⟩⟩⟩⟩⟩⟩ <;> simp at h
  exact ⟨a, b, c, d, e, rfl⟩

theorem holds_take {α : Type} {enc : α → Value} {w : World} {a : Option Addr} {l : List α} (h : HoldsE enc w a l) (n : Nat) : HoldsE enc w a (l.take n) := fun h0 => by
  have hl : (l.take n).length ≤ l.length := by simp; omega
  obtain ⟨g, off, e, hc⟩ := h (by omega)
  refine ⟨g, off, e, fun j hj => ?_⟩
  rw [hc j (by omega)]
  simp

theorem plain_of {w : World} {a : Addr} {v : Value} (h : w.cell? (a.add 0) = some v) : ∃ g off, a = ⟨g, off, none⟩ := by
  obtain ⟨g, off, spot⟩ := a
  have hspot : spot = none := by simpa [Addr.add] using World.cell?_spot h
  subst hspot
  exact ⟨g, off, rfl⟩

section
variable {H : Type} {enc : TypeId × Value → H} {w : World} {spare : Nat → Bool} {held : Bool}

/-- A slice of numbers that came in. -/
theorem ints_in {t e : TypeId} {k : IntKind} (ht : Try.prog.underlying t = some (.slice e)) (he : Try.prog.underlying e = some (.int k)) (hc : Try.prog.cellsOf e = 1) {fuel : Nat} {v : Value} {x : DataW H × List MemPlace} (h : DataW.trod enc Try.prog w 0 spare held fuel t [v] = some x) :
    ∃ A N C, v = .slice A N C ∧ ∃ l : List Int, l.length = N ∧ HoldsE (Value.int k) w A l ∧ (∀ x ∈ l, (Lit.int k x).wf = true) ∧ N ≤ 9223372036854775807 ∧ N ≤ C ∧ (A = none → C = 0) := by
  rcases open_ints ht he hc h with ⟨hcs, _⟩ | ⟨a, len, cap, zs, hcs, _, hl, hm, hz, _, hcell, hwz⟩
  · simp only [List.cons.injEq, and_true] at hcs
    exact ⟨none, 0, 0, hcs, [], rfl, fun h0 => absurd h0 (by simp), fun x hx => by simp at hx, by omega, Nat.le_refl _, fun _ => rfl⟩
  · simp only [List.cons.injEq, and_true] at hcs
    have hzl : len ≤ zs.length := by rw [hz]; split <;> omega
    have hlen : (zs.take len).length = len := by rw [List.length_take]; omega
    refine ⟨some a, len, cap, hcs, zs.take len, hlen, fun h0 => ?_, fun x hx => hwz x (List.mem_of_mem_take hx), by simp only [maxLen] at hm; omega, hl, fun e => by simp at e⟩
    obtain ⟨g, off, rfl⟩ := plain_of (hcell 0 (by omega))
    refine ⟨g, off, rfl, fun j hj => ?_⟩
    have := hcell j (by omega)
    rw [Go.WideShapes.add_plain] at this
    rw [this]
    have hj' : j < zs.length := by omega
    simp [List.getD_eq_getElem?_getD, hj']

/-- A slice of texts that came in. -/
theorem texts_in {fuel : Nat} {v : Value} {x : DataW H × List MemPlace} (h : DataW.trod enc Try.prog w 0 spare held fuel 22 [v] = some x) :
    ∃ A N C, v = .slice A N C ∧ ∃ l : List (List UInt8), l.length = N ∧ HoldsE encStr w A l ∧ (∀ x ∈ l, x.length ≤ maxLen) ∧ N ≤ 9223372036854775807 ∧ N ≤ C ∧ (A = none → C = 0) := by
  rcases open_strings Try.underlying22 Try.underlying9 (by kernel_rfl) h with ⟨hcs, _⟩ | ⟨a, len, cap, ss, hcs, _, hl, hm, hz, _, hcell, hwz⟩
  · simp only [List.cons.injEq, and_true] at hcs
    exact ⟨none, 0, 0, hcs, [], rfl, fun h0 => absurd h0 (by simp), fun x hx => by simp at hx, by omega, Nat.le_refl _, fun _ => rfl⟩
  · simp only [List.cons.injEq, and_true] at hcs
    have hzl : len ≤ ss.length := by rw [hz]; split <;> omega
    have hlen : ((ss.take len).map fun s => s.data.toList).length = len := by rw [List.length_map, List.length_take]; omega
    refine ⟨some a, len, cap, hcs, (ss.take len).map fun s => s.data.toList, hlen, fun h0 => ?_, fun x hx => ?_, by simp only [maxLen] at hm; omega, hl, fun e => by simp at e⟩
    · obtain ⟨g, off, rfl⟩ := plain_of (hcell 0 (by omega))
      refine ⟨g, off, rfl, fun j hj => ?_⟩
      have := hcell j (by omega)
      rw [Go.WideShapes.add_plain] at this
      rw [this]
      have hj' : j < ss.length := by omega
      simp [List.getD_eq_getElem?_getD, hj']
    · obtain ⟨s, hs, rfl⟩ := List.mem_map.1 hx
      have := hwz s (List.mem_of_mem_take hs)
      rw [Array.length_toList]
      exact this

/-- The keys that came in. -/
theorem keys_in {r : Reach} {b0 : Nat} {v : Value} {d : DataW H} {p : List MemPlace} (hv : Value.okWide Try.prog w r b0 28 v) (h : DataW.Trod enc Try.prog w 0 spare held 28 v d p) :
    ∃ (A0 A1 A2 A3 A4 : Option Addr) (N0 N1 N2 N3 N4 C0 C1 C2 C3 C4 n0 n1 n2 n3 n4 : Nat) (L : List (List UInt8)) (l1 l2 l3 l4 : List Int),
      v = .agg #[.slice A0 N0 C0, .slice A1 N1 C1, .slice A2 N2 C2, .slice A3 N3 C3, .slice A4 N4 C4] ∧ Keys5 w A0 A1 A2 A3 A4 N0 N1 N2 N3 N4 C0 C1 C2 C3 C4 n0 n1 n2 n3 n4 L l1 l2 l3 l4 := by
  obtain ⟨cs, rfl, hsz⟩ := okWide_struct Try.underlying28 hv
  obtain ⟨fuel, hf⟩ := h
  obtain ⟨xs, n, _, _, hlen, hxl, hg⟩ := DataW.trod_struct Try.underlying28 hf
  obtain ⟨l⟩ := cs
  rw [cells28] at hsz
  obtain ⟨c0, c1, c2, c3, c4, rfl⟩ := five_of (l := l) hsz
  obtain ⟨x0, x1, x2, x3, x4, rfl⟩ := five_of hxl
  clear hsz hxl hlen hv hf
  have g0 : DataW.trod enc Try.prog w 0 spare held n 22 (([c0, c1, c2, c3, c4].drop 0).take (Try.prog.cellsOf 22)) = some x0 := hg 0 _ rfl
  rw [cells22] at g0
  replace g0 : DataW.trod enc Try.prog w 0 spare held n 22 [c0] = some x0 := g0
  have g1 : DataW.trod enc Try.prog w 0 spare held n 23 (([c0, c1, c2, c3, c4].drop 1).take (Try.prog.cellsOf 23)) = some x1 := hg 1 _ rfl
  rw [cells23] at g1
  replace g1 : DataW.trod enc Try.prog w 0 spare held n 23 [c1] = some x1 := g1
  have g2 : DataW.trod enc Try.prog w 0 spare held n 24 (([c0, c1, c2, c3, c4].drop 2).take (Try.prog.cellsOf 24)) = some x2 := hg 2 _ rfl
  rw [cells24] at g2
  replace g2 : DataW.trod enc Try.prog w 0 spare held n 24 [c2] = some x2 := g2
  have g3 : DataW.trod enc Try.prog w 0 spare held n 25 (([c0, c1, c2, c3, c4].drop 3).take (Try.prog.cellsOf 25)) = some x3 := hg 3 _ rfl
  rw [cells25] at g3
  replace g3 : DataW.trod enc Try.prog w 0 spare held n 25 [c3] = some x3 := g3
  have g4 : DataW.trod enc Try.prog w 0 spare held n 26 (([c0, c1, c2, c3, c4].drop 4).take (Try.prog.cellsOf 26)) = some x4 := hg 4 _ rfl
  rw [cells26] at g4
  replace g4 : DataW.trod enc Try.prog w 0 spare held n 26 [c4] = some x4 := g4
  clear hg
  obtain ⟨A0, N0, C0, rfl, L, e0, h0, w0, m0, k0, z0⟩ := texts_in g0
  obtain ⟨A1, N1, C1, rfl, l1, e1, h1, w1, m1, k1, z1⟩ := ints_in Try.underlying23 Try.underlying2 (by kernel_rfl) g1
  obtain ⟨A2, N2, C2, rfl, l2, e2, h2, w2, m2, k2, z2⟩ := ints_in Try.underlying24 Try.underlying34 (by kernel_rfl) g2
  obtain ⟨A3, N3, C3, rfl, l3, e3, h3, w3, m3, k3, z3⟩ := ints_in Try.underlying25 Try.underlying21 (by kernel_rfl) g3
  obtain ⟨A4, N4, C4, rfl, l4, e4, h4, w4, m4, k4, z4⟩ := ints_in Try.underlying26 Try.underlying37 (by kernel_rfl) g4
  refine ⟨A0, A1, A2, A3, A4, N0, N1, N2, N3, N4, C0, C1, C2, C3, C4, min N0 200, min N1 200, min N2 200, min N3 200, min N4 200, L, l1.take (min N1 200), l2.take (min N2 200), l3.take (min N3 200), l4.take (min N4 200), rfl, ?_⟩
  exact { all := h0, len := e0, h0 := holds_take h0 _, e0 := by simp; omega, m0 := m0, c0 := k0, z0 := z0, q0 := by omega, w0 := fun x hx => w0 x (List.mem_of_mem_take hx),
          h1 := holds_take h1 _, e1 := by simp; omega, m1 := m1, c1 := k1, z1 := z1, q1 := by omega, w1 := fun x hx => w1 x (List.mem_of_mem_take hx),
          h2 := holds_take h2 _, e2 := by simp; omega, m2 := m2, c2 := k2, z2 := z2, q2 := by omega, w2 := fun x hx => w2 x (List.mem_of_mem_take hx),
          h3 := holds_take h3 _, e3 := by simp; omega, m3 := m3, c3 := k3, z3 := z3, q3 := by omega, w3 := fun x hx => w3 x (List.mem_of_mem_take hx),
          h4 := holds_take h4 _, e4 := by simp; omega, m4 := m4, c4 := k4, z4 := z4, q4 := by omega, w4 := fun x hx => w4 x (List.mem_of_mem_take hx) }
end

/-! ### THE ROW's STEP -/
set_option maxRecDepth 100000 in
theorem lifted (os : Os) (started : os.Started) (H : Type) (enc : TypeId × Value → H) :
    ReturnsInHanded {} Try.checked os 3 .any (Rows.fnSortedSpec.pre6 enc Try.prog Try.f3 Rows.fnSortedRow.domain false) (Rows.fnSortedSpec.post enc Try.prog Try.f3 false true false false) := by
  refine returnsInHanded_of_change (C := Try.checked) own started (by kernel_rfl) Try.func3
    (ChangeSpec.witness6 (enc := enc) (C := Try.checked) false ⟨#[], #[.agg #[.slice none 0 0, .slice none 0 0, .slice none 0 0, .slice none 0 0, .slice none 0 0]], []⟩ 8 (by kernel_rfl) (by kernel_rfl) (by kernel_rfl) (by kernel_rfl)) ?_
  intro W base args ds gs before hval0 hW hcnd _
  have hval : ∀ (j : Nat) t v, Try.f3.params[j]? = some t → args[j]? = some v → Value.okWide Try.prog W .any base t v := hval0
  have hW' := hW
  obtain ⟨p, q, hA0, hV, rfl, hfz, hnd⟩ := hW
  have hA : DataW.TrodAll enc Try.prog W 0 (fun _ => true) true Try.f3.params.toList args.toList ds p := hA0
  rw [Try.params3] at hA hval
  obtain ⟨v0, vs0, d0, ds0, p0, q0, hargs, rfl, rfl, h0, r0⟩ := trodAll_cons hA
  obtain ⟨rfl, rfl, rfl⟩ := trodAll_nil r0
  obtain rfl : args = #[v0] := by cases args; simp_all
  obtain ⟨rfl, rfl⟩ := trodVars_none hV
  have k0 := h0
  have lt0 : ∀ x ∈ p0, x.block < W.heap.size := by obtain ⟨m, hm⟩ := k0; exact DataW.trod_lt m _ _ _ hm
  obtain ⟨A0, A1, A2, A3, A4, N0, N1, N2, N3, N4, C0, C1, C2, C3, C4, n0, n1, n2, n3, n4, L, l1, l2, l3, l4, rfl, hK⟩ := keys_in (hval 0 28 v0 rfl rfl) h0
  clear hA0 hval0
  refine (sorted_walk W A0 A1 A2 A3 A4 N0 N1 N2 N3 N4 C0 C1 C2 C3 C4 n0 n1 n2 n3 n4 L l1 l2 l3 l4 hK).mono fun e W' ⟨he, bel⟩ => ?_
  subst he
  exact ⟨_, rfl, _, _, _, [], _, [], hW', trodAll_mk1 (shut_bool Try.underlying4 _), (trodAll_cons_mk (Below.trod laidOut (by kernel_rfl) (of_decide_eq_true (by kernel_rfl)) k0 bel lt0) trodAll_mk0), rfl, bel.frame _, fun h => by cases h⟩

theorem over : Rows.fnSortedRow.holds Try.pinned (OpenSpec.ofChange Rows.fnSortedSpec) :=
  OpenClaim.holds_of_wide 3 Try.f3 rfl rfl rfl rfl rfl rfl rfl ⟨rfl, rfl, rfl, rfl, rfl⟩ rfl rfl rfl rfl rfl (by kernel_rfl) Try.func3 (by kernel_rfl)
    (of_decide_eq_true (by kernel_rfl)) (by unfold Func.isWrapper; first | (rw [if_pos (by decide +kernel)]; kernel_rfl) | (rw [if_neg (by decide +kernel)]; exact ⟨rfl, rfl⟩))
    (fun os started H enc _ => lifted os started H enc)

/-- The statement. -/
theorem proved : Rows.FnSortedSaid := over
#print axioms proved
end Go.Proofs.Ytnembmpjnlipeaa.fnSorted
