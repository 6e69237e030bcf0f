/- A row of values that came in. -/
import Derived.Test.YtobponaenabpgaaWrFits
import Derived.Test.YtobponaenabpgaaRdMid
namespace Go.Proofs.Ytobponaenabpgaa.Rd
open Go.ChangeShapes Go.WideShapes Go.ChangeAt Go.RowKit Sv Go.Proofs.YtobponaenabpgaaW Go.Proofs.YtobponaenabpgaaW.PrintWords
set_option linter.unusedVariables false

/-- A value as it came in. -/
structure Raw where
  kind : Int
  n : Int
  bytes : List Int
  a : Option Addr
  c : Nat

def rowR (x : Raw) : List Value := [.int .i64 x.kind, .int .u64 x.n, .slice x.a x.bytes.length x.c]

/-- What a slice of values leads to: the cells of its row, each value's bytes. -/
def InRow (w : World) (a : Option Addr) (q : List Raw) : Prop :=
  q.length ≤ 9223372036854775807 ∧ (∀ x ∈ q, Holds8 w x.a x.bytes) ∧ (0 < q.length → ∃ ad, a = some ad ∧ ∀ j u, (q.flatMap rowR)[j]? = some u → w.cell? (ad.add j) = some u)

theorem InRow.below {w w1 : World} {a : Option Addr} {q : List Raw} (h : InRow w a q) (hb : Below w.heap.size w w1) : InRow w1 a q :=
  ⟨h.1, fun x hx => holds_below (h.2.1 x hx) hb, fun h0 => by
    obtain ⟨ad, e, hc⟩ := h.2.2 h0
    exact ⟨ad, e, fun j u hu => pw_cell_below hb (hc j u hu)⟩⟩

def CloneRow (q : List Raw) (w : World) (e : Ending) (w' : World) : Prop := ∃ v, e = .returned v ∧ w'.ownsRow w.heap.size 62 3 v q.length (q.flatMap rowR) ∧ Below w.heap.size w w'

theorem rowR_len (q : List Raw) : (q.flatMap rowR).length = q.length * 3 := by
  induction q with
  | nil => rfl
  | cons x r ih => rw [List.flatMap_cons, List.length_append, ih]; simp [rowR]; omega

theorem rowR_one (q : List Raw) : ∀ u ∈ q.flatMap rowR, u.oneCell' = true := by
  intro u hu
  obtain ⟨x, _, hx⟩ := List.mem_flatMap.1 hu
  simp [rowR] at hx
  rcases hx with rfl | rfl | rfl <;> rfl

theorem cloneRow_nil (w : World) : Calls Try.prog 56 #[.slice none 0 0] w (CloneRow [] w) := by
  have k1 := fun (w : World) (a : Option Addr) (l c : Nat) => Lib.run_eql_slice_nil (P := Try.prog) w 54 62 a l c 0 0 Try.underlying54
  go_enter Try.func56, Try.ntmps56
  go_wp2
  go_ret
  exact ⟨_, rfl, own_nil _ _ _ _, Below.refl _ _⟩

theorem cloneRow_some (ad : Addr) (cap : Nat) (q : List Raw) (hl : q.length ≤ 1000) (w : World) (h : InRow w (some ad) q) : Calls Try.prog 56 #[.slice (some ad) q.length cap] w (CloneRow q w) := by
  have k1 := fun (w : World) (a : Option Addr) (l c : Nat) => Lib.run_eql_slice_nil (P := Try.prog) w 54 62 a l c 0 0 Try.underlying54
  obtain ⟨i0, hi, hzz⟩ := Option.map_eq_some_iff.1 info62
  simp only [Prod.mk.injEq] at hzz
  have HZ := Lib.hid hzz
  have HI := Lib.hid hi
  have hA : Below w.heap.size w (w.alloc (.cells #[] 62)) := (Below.refl _ _).alloc (Nat.le_refl _) _
  have HN : Hid (∀ j u, (q.flatMap rowR)[j]? = some u → (w.alloc (.cells #[] 62)).cell? (ad.add j) = some u) := fun j u hu => by
    have h0 : 0 < q.length := by
      rcases q with _ | ⟨x, r⟩
      · simp at hu
      · simp
    obtain ⟨ad', e, hc⟩ := (h.below hA).2.2 h0
    cases e
    exact hc j u hu
  have HO : Hid ((w.alloc (.cells #[] 62)).ownsRow w.heap.size 62 3 (.slice (some ⟨w.heap.size, 0, none⟩) 0 0) 0 []) := World.ownsRow_lit w #[] 0 (Nat.le_refl _) (by decide) (by simp)
  have HB := Lib.hid hA
  clear h hA hzz hi
  go_enter Try.func56, Try.ntmps56
  go_wp2_with (at_builtin; go_loud (refine wpList_append_own_at _ rfl (.tmp 5) (.tmp 6) 54 rfl w.heap.size 62 i0 _ 3 40 Try.underlying54 HI.out HZ.out.1 HZ.out.2.1 HZ.out.2.2 rfl (by decide) (.slice (some ⟨w.heap.size, 0, none⟩) 0 0) 0 [] rfl HO.out ad q.length cap (q.flatMap rowR) rfl (rowR_len q) HN.out (rowR_one q) (by simp only [maxLen]; omega) (by omega) HB.out.size ?_); intro v1 w1 HO1 hg _ _; have HP := Lib.hid HO1; have HG := Lib.hid (HB.out.grown hg HB.out.size (own_base HO.out)); clear HO1 hg)
  go_ret
  exact ⟨_, rfl, by simpa using HP.out, HG.out⟩

end Go.Proofs.Ytobponaenabpgaa.Rd
