/- The table in which the reference counts: no program in sight. -/
import Derived.Maps.OwnSet
import Derived.Maps.OwnOps
import Derived.Maps.RangeWalk
namespace Go.Proofs.Ytnembmpjnlipeaa.So
open Go.RowKit Go.Maps
set_option linter.unusedVariables false

def i64d (n : Int) : DataW Unit := .lit (.int .i64 n)

/-- The table reads as f. -/
def Tab {α : Type} (key : α → Lit) (f : α → Int) (D : DataW Unit) : Prop := IsMap D ∧ ∀ x, D.atKey (key x) (i64d 0) = i64d (f x)

structure KeyOk {α : Type} (key : α → Lit) : Prop where
  inj : ∀ a b, key a = key b → a = b
  lit : ∀ a, WideAt.IsKeyLit (key a)

theorem Tab.empty {α : Type} (key : α → Lit) : Tab key (fun _ => 0) (.map []) := ⟨isMap_empty, fun _ => rfl⟩

theorem Tab.put {α : Type} [DecidableEq α] {key : α → Lit} (hk : KeyOk key) {f : α → Int} {D : DataW Unit} (h : Tab key f D) (y : α) (v : Int) : Tab key (fun x => if x = y then v else f x) (D.put (key y) (i64d v)) := by
  refine ⟨h.1.put _ _, fun x => ?_⟩
  by_cases e : x = y
  · subst e
    simp only [if_true]
    exact atKey_put_same h.1 (hk.lit x) _ _
  · simp only [if_neg e]
    rw [atKey_put_other (fun he => e (hk.inj _ _ he))]
    exact h.2 x

theorem Tab.at {α : Type} {key : α → Lit} {f : α → Int} {D : DataW Unit} (h : Tab key f D) {x : α} {c : Int} (hc : D.atKey (key x) (.lit (.int .i64 0)) = .lit (.int .i64 c)) : c = f x := by
  have := (h.2 x).symm.trans hc
  simp only [i64d, DataW.lit.injEq, Lit.int.injEq] at this
  exact this.2.symm

/-- How much oftener one list has x among its first k than the other. -/
def Diff {α : Type} [DecidableEq α] (l s : List α) (k : Nat) (x : α) : Int := ((l.take k).count x : Int) - ((s.take k).count x : Int)

theorem diff_bd {α : Type} [DecidableEq α] (l s : List α) (k : Nat) (x : α) : -(k : Int) ≤ Diff l s k x ∧ Diff l s k x ≤ k := by
  have h1 := List.count_le_length (a := x) (l := l.take k)
  have h2 := List.count_le_length (a := x) (l := s.take k)
  have h3 := List.length_take_le k l
  have h4 := List.length_take_le k s
  unfold Diff
  omega

theorem diff_zero {α : Type} [DecidableEq α] (l s : List α) : Diff l s 0 = fun _ => 0 := by funext x; simp [Diff]

theorem count_snoc {α : Type} [DecidableEq α] {l : List α} {k : Nat} (hk : k < l.length) (x : α) : ((l.take (k + 1)).count x : Int) = ((l.take k).count x : Int) + (if x = l[k] then 1 else 0) := by
  rw [List.take_succ_eq_append_getElem hk, List.count_append, List.count_singleton]
  by_cases e : x = l[k]
  · subst e; simp
  · have : (l[k] == x) = false := by simp [Ne.symm e]
    simp [this, e]

theorem Tab.round {α : Type} [DecidableEq α] {key : α → Lit} (hk : KeyOk key) {l s : List α} {k : Nat} {D : DataW Unit} (h : Tab key (Diff l s k) D) (hl : k < l.length) (hs : k < s.length) {x y : α} (hx : l[k] = x) (hy : s[k] = y) {c1 c2 : Int}
    (h1 : c1 = Diff l s k x) (h2 : (D.put (key x) (i64d (c1 + 1))).atKey (key y) (.lit (.int .i64 0)) = .lit (.int .i64 c2)) : Tab key (Diff l s (k + 1)) ((D.put (key x) (i64d (c1 + 1))).put (key y) (i64d (c2 - 1))) := by
  have t1 := h.put hk x (c1 + 1)
  have e2 := t1.at h2
  have t2 := t1.put hk y (c2 - 1)
  refine ⟨t2.1, fun z => (t2.2 z).trans ?_⟩
  congr 1
  have d1 := count_snoc hl z
  have d2 := count_snoc hs z
  rw [hx] at d1
  rw [hy] at d2
  unfold Diff at h1 ⊢
  rw [d1, d2]
  unfold Diff at e2
  by_cases ey : z = y
  · subst ey
    simp only [if_true]
    by_cases ex : z = x
    · subst ex; simp only [if_true] at e2 ⊢; omega
    · simp only [if_neg ex] at e2 ⊢; omega
  · simp only [if_neg ey]
    by_cases ex : z = x
    · subst ex; simp only [if_true] at e2 ⊢; omega
    · simp only [if_neg ex]; omega

theorem c2_bd {α : Type} [DecidableEq α] {key : α → Lit} (hk : KeyOk key) {l s : List α} {k : Nat} {D : DataW Unit} (h : Tab key (Diff l s k) D) {x y : α} {c1 c2 : Int} (h1 : c1 = Diff l s k x) (h2 : (D.put (key x) (i64d (c1 + 1))).atKey (key y) (.lit (.int .i64 0)) = .lit (.int .i64 c2)) :
    -(k : Int) ≤ c2 ∧ c2 ≤ k + 1 := by
  have e2 := (h.put hk x (c1 + 1)).at h2
  have b1 := diff_bd l s k x
  have b2 := diff_bd l s k y
  split at e2 <;> omega

theorem diff_end {α : Type} [DecidableEq α] {l s : List α} (hp : l.Perm s) {k : Nat} (hl : k = l.length) (x : α) : Diff l s k x = 0 := by
  have h2 := hp.length_eq
  unfold Diff
  rw [List.take_of_length_le (by omega), List.take_of_length_le (by omega), hp.count_eq]
  omega

theorem Tab.done {α : Type} [DecidableEq α] {key : α → Lit} {l s : List α} {k : Nat} {D : DataW Unit} (h : Tab key (Diff l s k) D) (hp : l.Perm s) (hl : k = l.length) {x : α} {c : Int} (hc : ∀ zd, D.atKey (key x) zd = .lit (.int .i64 c)) : c = 0 :=
  (h.at (hc _)).trans (diff_end hp hl x)

/-- A slice that holds a list of values of one cell each. -/
def HoldsE {α : Type} (enc : α → Value) (w : World) (a : Option Addr) (l : List α) : Prop :=
  0 < l.length → ∃ g off, a = some ⟨g, off, none⟩ ∧ ∀ j (h : j < l.length), w.cell? ⟨g, off + j, none⟩ = some (enc l[j])

theorem HoldsE.below {α : Type} {enc : α → Value} {w w1 : World} {a : Option Addr} {l : List α} (h : HoldsE enc w a l) (hb : Below w.heap.size w w1) : HoldsE enc w1 a l := fun h0 => by
  obtain ⟨g, off, e, hc⟩ := h h0
  exact ⟨g, off, e, fun j hj => (hb.cell (World.block_lt_of_cell? w _ (hc j hj))).trans (hc j hj)⟩

end Go.Proofs.Ytnembmpjnlipeaa.So
