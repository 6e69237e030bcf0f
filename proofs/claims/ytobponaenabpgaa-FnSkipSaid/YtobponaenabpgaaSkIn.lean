/- A field that came in, as a tree. -/
import Derived.Test.YtobponaenabpgaaSkWrit3
import Derived.Test.YtobponaenabpgaaRows
import Derived.WalkKit
import Derived.ProofKit
import Derived.OpenShut
import Derived.ShutString
import Derived.ChangeOld
import Derived.Below
import Derived.Deep.Slices
namespace Go.Proofs.Ytobponaenabpgaa.Rd
open Go.ChangeShapes Go.WideShapes Go.ChangeAt Go.RowKit Sv Go.Proofs.YtobponaenabpgaaW Go.Proofs.YtobponaenabpgaaW.PrintWords
set_option linter.unusedVariables false

theorem cellsAt38 : Try.prog.cellsOf 38 = 5 := by kernel_rfl
theorem cellsAt3 : Try.prog.cellsOf 3 = 1 := by kernel_rfl
theorem cellsAt22 : Try.prog.cellsOf 22 = 1 := by kernel_rfl
theorem cellsAt23 : Try.prog.cellsOf 23 = 1 := by kernel_rfl
theorem cellsAt36 : Try.prog.cellsOf 36 = 1 := by kernel_rfl

theorem five_of {α : Type} {l : List α} (h : l.length = 5) : ∃ a b c d e, l = [a, b, c, d, e] := by
  rcases l with _ | ⟨a, _ | ⟨b, _ | ⟨c, _ | ⟨d, _ | ⟨e, _ | ⟨f, r⟩⟩⟩⟩⟩⟩ <;> simp at h
  exact ⟨a, b, c, d, e, rfl⟩

theorem okT_up {p : Nat → Prop} {w : World} : ∀ {h : Nat} {t : Tr}, OkT p w h t → OkT p w (h + 1) t
  | 0, _, h => h.elim
  | h + 1, _, hh => ⟨hh.1, fun x hx => okT_up (hh.2 x hx)⟩

section
variable {H : Type} {enc : TypeId × Value → H} {w : World} {base : Nat} {spare : Nat → Bool} {held : Bool}

/-- Bytes that came in. -/
theorem bytes_in {fuel : Nat} {v : Value} {x : DataW H × List MemPlace} (h : DataW.trod enc Try.prog w base spare held fuel 23 [v] = some x) :
    ∃ (l : List Int) (a : Option Addr) (c : Nat), v = .slice a l.length c ∧ Bytes8 l ∧ l.length ≤ c ∧ (a = none → c = 0) ∧ l.length ≤ 9223372036854775807 ∧
      (0 < l.length → ∃ ad, a = some ad ∧ ad.block < w.heap.size ∧ ∀ j, j < l.length → w.cell? (ad.add j) = some (.int .u8 (at8 l j))) := by
  rcases open_ints Try.underlying23 Try.underlying5 (by kernel_rfl) h with ⟨hcs, _⟩ | ⟨a, len, cap, zs, hcs, _, hl, hm, hz, _, hcell, hwz⟩
  · simp only [List.cons.injEq, and_true] at hcs
    exact ⟨[], none, 0, hcs, fun x hx => by simp at hx, Nat.le_refl _, fun _ => rfl, by simp, fun h0 => absurd h0 (by simp)⟩
  · simp only [List.cons.injEq, and_true] at hcs
    have hzl : len ≤ zs.length := by rw [hz]; split <;> omega
    have hlen : (zs.take len).length = len := by rw [List.length_take]; omega
    refine ⟨zs.take len, some a, cap, by rw [hlen]; exact hcs, ?_, by omega, fun e => by simp at e, ?_, ?_⟩
    · intro x hx
      have := bounds_u8 (hwz x (List.mem_of_mem_take hx))
      omega
    · rw [hlen]; simp only [maxLen] at hm; omega
    · intro h0
      rw [hlen] at h0
      have hc : ∀ j, j < len → w.cell? (a.add j) = some (.int .u8 (at8 (zs.take len) j)) := fun j hj => by
        rw [hcell j (by omega)]
        simp [at8, List.getD_eq_getElem?_getD, hj]
      refine ⟨a, rfl, ?_, fun j hj => hc j (by omega)⟩
      have := World.block_lt_of_cell? w _ (hc 0 h0)
      rwa [add_block] at this

/-- A field that came in. -/
theorem tree_in : ∀ (fuel : Nat) {cs : List Value} {x : DataW H × List MemPlace}, DataW.trod enc Try.prog w base spare held fuel 38 cs = some x → ∃ t : Tr, cs = cellsT t ∧ OkT (· < w.heap.size) w fuel t := by
  intro fuel
  induction fuel using Nat.strongRecOn with
  | ind fuel ih =>
    intro cs x h
    obtain ⟨xs, n, rfl, _, hlen, hxl, hg⟩ := DataW.trod_struct Try.underlying38 h
    rw [cellsAt38] at hlen
    obtain ⟨c0, c1, c2, c3, c4, rfl⟩ := five_of hlen
    obtain ⟨x0, x1, x2, x3, x4, rfl⟩ := five_of hxl
    clear hlen hxl h
    have g0 : DataW.trod enc Try.prog w base spare held n 3 (([c0, c1, c2, c3, c4].drop 0).take (Try.prog.cellsOf 3)) = some x0 := hg 0 _ rfl
    rw [cellsAt3] at g0
    replace g0 : DataW.trod enc Try.prog w base spare held n 3 [c0] = some x0 := g0
    have g1 : DataW.trod enc Try.prog w base spare held n 3 (([c0, c1, c2, c3, c4].drop 1).take (Try.prog.cellsOf 3)) = some x1 := hg 1 _ rfl
    rw [cellsAt3] at g1
    replace g1 : DataW.trod enc Try.prog w base spare held n 3 [c1] = some x1 := g1
    have g2 : DataW.trod enc Try.prog w base spare held n 22 (([c0, c1, c2, c3, c4].drop 2).take (Try.prog.cellsOf 22)) = some x2 := hg 2 _ rfl
    rw [cellsAt22] at g2
    replace g2 : DataW.trod enc Try.prog w base spare held n 22 [c2] = some x2 := g2
    have g3 : DataW.trod enc Try.prog w base spare held n 23 (([c0, c1, c2, c3, c4].drop 3).take (Try.prog.cellsOf 23)) = some x3 := hg 3 _ rfl
    rw [cellsAt23] at g3
    replace g3 : DataW.trod enc Try.prog w base spare held n 23 [c3] = some x3 := g3
    have g4 : DataW.trod enc Try.prog w base spare held n 36 (([c0, c1, c2, c3, c4].drop 4).take (Try.prog.cellsOf 36)) = some x4 := hg 4 _ rfl
    rw [cellsAt36] at g4
    replace g4 : DataW.trod enc Try.prog w base spare held n 36 [c4] = some x4 := g4
    clear hg
    obtain ⟨num, e0, _, wk⟩ := DataW.trod_int Try.underlying3 g0
    obtain ⟨kind, e1, _, wm⟩ := DataW.trod_int Try.underlying3 g1
    obtain ⟨m, e2, _, wn⟩ := DataW.trod_int Try.underlying22 g2
    obtain ⟨bytes, ba, bc, rfl, b8, bl, bn, bm, bh⟩ := bytes_in g3
    have bk := bounds_i64 wk
    have bm' := bounds_i64 wm
    have bnn := bounds_u64 wn
    simp only [List.cons.injEq, and_true] at e0 e1 e2
    subst e0 e1 e2
    obtain ⟨ins, ia, ic, rfl, hin, il, inn, im, ih'⟩ : ∃ (ins : List Tr) (ia : Option Addr) (ic : Nat), c4 = .slice ia ins.length ic ∧ (∀ y ∈ ins, OkT (· < w.heap.size) w n y) ∧ ins.length ≤ ic ∧ (ia = none → ic = 0) ∧ ins.length ≤ 9223372036854775807 ∧
        (0 < ins.length → ∃ ad, ia = some ad ∧ ad.block < w.heap.size ∧ ∀ j u, (ins.flatMap cellsT)[j]? = some u → w.cell? (ad.add j) = some u) := by
      rcases DataW.trod_slice Try.underlying36 g4 with ⟨hcs, _⟩ | ⟨a, len, cap, elems, rest, k, rfl, hcs, _, _, hl, hm, hel, hi, _⟩
      · simp only [List.cons.injEq, and_true] at hcs
        exact ⟨[], none, 0, hcs, fun y hy => by simp at hy, Nat.le_refl _, fun _ => rfl, by simp, fun h0 => absurd h0 (by simp)⟩
      · simp only [List.cons.injEq, and_true] at hcs
        have hex : ∀ i : Nat, ∃ y : Tr, i < len → OkT (· < w.heap.size) w k y ∧ ∀ j, j < 5 → w.cell? (a.add (i * 5 + j)) = (cellsT y)[j]? := by
          intro i
          rcases Nat.lt_or_ge i len with hlt | hge
          · have h1 := hi i hlt
            rw [cellsAt38, List.getElem?_eq_getElem (by omega)] at h1
            obtain ⟨cs', hc, ht⟩ := Option.bind_eq_some_iff.1 h1
            obtain ⟨y, rfl, hy⟩ := ih k (by omega) ht
            obtain ⟨_, _, hat⟩ := World.cells?_some hc
            refine ⟨y, fun _ => ⟨hy, fun j hj => ?_⟩⟩
            rw [← Go.Deep.add_add, hat j hj]
          · exact ⟨⟨0, 0, 0, [], none, 0, [], none, 0⟩, fun h => absurd h (by omega)⟩
        obtain ⟨f, hf⟩ := Classical.axiomOfChoice hex
        have hlen' : ((List.range len).map f).length = len := by simp
        have hcell : ∀ j u, (((List.range len).map f).flatMap cellsT)[j]? = some u → w.cell? (a.add j) = some u := by
          intro j u hu
          have hj : j < (((List.range len).map f).flatMap cellsT).length := (List.getElem?_eq_some_iff.1 hu).1
          have hfl : ∀ q : List Tr, (q.flatMap cellsT).length = q.length * 5 := fun q => by
            induction q with
            | nil => rfl
            | cons x r ih => rw [List.flatMap_cons, List.length_append, ih]; simp [cellsT]; omega
          rw [hfl, hlen'] at hj
          have hq : j / 5 < len := by omega
          have he : j = j / 5 * 5 + j % 5 := by omega
          rw [he, rowT_get _ (j / 5) (by simpa using hq) (j % 5) (by omega)] at hu
          have := (hf (j / 5) hq).2 (j % 5) (by omega)
          rw [← he] at this
          rw [this, ← hu]
          simp
        refine ⟨(List.range len).map f, some a, cap, by rw [hlen']; exact hcs, ?_, by omega, fun e => by simp at e, by rw [hlen']; simp only [maxLen] at hm; omega, fun h0 => ⟨a, rfl, ?_, hcell⟩⟩
        · intro y hy
          obtain ⟨i, hi, rfl⟩ := List.mem_map.1 hy
          exact okT_up (hf i (List.mem_range.1 hi)).1
        · rw [hlen'] at h0
          have := (hf 0 h0).2 0 (by omega)
          have hb := World.block_lt_of_cell? w _ (this.trans (by rfl : _ = some (Value.int .i64 (f 0).num)))
          rwa [add_block] at hb
    exact ⟨⟨num, kind, m, bytes, ba, bc, ins, ia, ic⟩, rfl,
      { m0 := bk.1, m1 := bk.2, k0 := bm'.1, k1 := bm'.2, n0 := bnn.1, n1 := bnn.2, b8 := b8, bl := bl, bn := bn, bm := bm, bh := bh, il := il, inn := inn, im := im, ih := ih' }, hin⟩
end

end Go.Proofs.Ytobponaenabpgaa.Rd
