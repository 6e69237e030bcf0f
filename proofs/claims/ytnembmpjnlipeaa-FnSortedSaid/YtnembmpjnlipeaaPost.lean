/- What a sort leaves: no program in sight. -/
import Derived.Test.YtnembmpjnlipeaaTab
import Derived.Sort.Grow
import Derived.Sort.Statements
import Derived.Laws.OwnMore
import Derived.Deep.Draws
import Derived.WalkKit
namespace Go.Proofs.Ytnembmpjnlipeaa.So
open Go.RowKit Go.Maps
set_option linter.unusedVariables false

/-- The list that the slice holds afterwards is a permutation of what it held, sorted; nothing else has turned. -/
def SortPost {α : Type} (enc : α → Value) (lt : α → α → Bool) (A : Option Addr) (l : List α) (w : World) (e : Ending) (w' : World) : Prop :=
  e = .returned (.tuple #[]) ∧ ∃ s : List α, l.Perm s ∧ (∀ i j (h : j < s.length) (h' : i < j), lt s[j] (s[i]'(by omega)) = false) ∧ HoldsE enc w' A s ∧ w.grownBy w' (A.map (·.block))

theorem own_holdsE {α : Type} {enc : α → Value} {w : World} {base e n c : Nat} {A : Option Addr} {l : List α} (h : w.ownsRow base e 1 (.slice A n c) n (l.map enc)) : HoldsE enc w A l := by
  intro h0
  have hl : l.length = n := by have := h.1; simpa using this
  rcases h.2 with ⟨h', hn⟩ | ⟨g, cap, cur, h', _⟩
  · cases h'; omega
  · cases h'
    refine ⟨g, 0, rfl, fun j hj => ?_⟩
    rw [Nat.zero_add, h.cellAt j (by omega)]
    simp [hj]

theorem own_some {w : World} {base e n c : Nat} {A : Option Addr} {xs : List Value} {size : Nat} (h : w.ownsRow base e size (.slice A n c) n xs) (h0 : 0 < n) : ∃ g, A = some ⟨g, 0, none⟩ ∧ base ≤ g := by
  rcases h.2 with ⟨h', hn⟩ | ⟨g, cap, cur, h', hb, _⟩
  · cases h'; omega
  · cases h'; exact ⟨g, rfl, hb⟩

theorem own_holds {α : Type} [Inhabited α] {enc : α → Value} {w : World} {base e n c g : Nat} {l : List α} (h : w.ownsRow base e 1 (.slice (some ⟨g, 0, none⟩) n c) n (l.map enc)) : Sort.Holds enc w g 0 l.toArray ∧ g < w.heap.size := by
  have hl : l.length = n := by have := h.1; simpa using this
  refine ⟨fun j hj => ?_, (h.lt g rfl).2⟩
  simp only [List.size_toArray] at hj
  rw [Nat.zero_add]
  refine ⟨?_, h.frozenAt j⟩
  rw [h.cellAt j (by omega)]
  simp [hj]

theorem grown_sort {α : Type} [Inhabited α] (enc : α → Value) (w : World) (n g : Nat) (d : Array α) (os : Array Obj) : w.grownBy (Sort.grow (Sort.putRow enc (Sort.ahead w n) g 0 d) os) (some g) := by
  refine ⟨rfl, rfl, rfl, ?_, fun i hi hne => ?_⟩
  · simp
  · rw [Sort.heap_grow_old _ _ (by simpa using hi)]
    simp only [Sort.putRow, Sort.mapBlock, Sort.heap_ahead, Array.getElem?_modify]
    rw [if_neg (fun e => hne (by rw [e]))]

theorem post_sorted {α : Type} [Inhabited α] {enc : α → Value} {lt : α → α → Bool} {w : World} {base e n c g : Nat} {l : List α} (h : w.ownsRow base e 1 (.slice (some ⟨g, 0, none⟩) n c) n (l.map enc)) {d' : Array α} {m : Nat} {os : Array Obj}
    (h1 : d'.size = l.toArray.size) (h3 : l.Perm d'.toList) (hs : Sort.SortedIn lt 0 l.toArray.size d') : SortPost enc lt (some ⟨g, 0, none⟩) l w (.returned (.tuple #[])) (Sort.grow (Sort.putRow enc (Sort.ahead w m) g 0 d') os) := by
  obtain ⟨hH, hg⟩ := own_holds h
  have hsz : d'.size = l.length := by simpa using h1
  have hcell := Sort.holds_grow enc _ os g 0 d' (by simpa using hg) (Sort.holds_putRow enc (Sort.ahead w m) g 0 l.toArray d' hH h1)
  refine ⟨rfl, d'.toList, h3, ?_, fun h0 => ⟨g, 0, rfl, fun j hj => ?_⟩, grown_sort enc w m g d' os⟩
  · intro i j hj hij
    have := hs i j (Nat.zero_le _) hij (by simpa [hsz] using hj)
    simp only [Array.length_toList] at hj
    rw [getElem!_pos d' j hj, getElem!_pos d' i (by omega)] at this
    simpa using this
  · simp only [Array.length_toList] at hj
    have := (hcell j hj).1
    rw [getElem!_pos d' j hj] at this
    simpa using this

theorem perm_of {α : Type} [Inhabited α] {l : List α} {d' : Array α} (hp : Sort.PermIn 0 l.toArray.size l.toArray d') : d'.size = l.toArray.size ∧ l.Perm d'.toList := by
  obtain ⟨h1, _, h3⟩ := hp
  refine ⟨h1, ?_⟩
  have e1 : d'.extract 0 l.toArray.size = d' := by rw [← h1]; simp
  have e2 : l.toArray.extract 0 l.toArray.size = l.toArray := by simp
  rw [e1, e2] at h3
  exact h3.symm

theorem post_tiny {α : Type} {enc : α → Value} {lt : α → α → Bool} {w : World} {base e n c : Nat} {A : Option Addr} {l : List α} (h : w.ownsRow base e 1 (.slice A n c) n (l.map enc)) (hl : l.length ≤ 1) (q : Nat) : SortPost enc lt A l w (.returned (.tuple #[])) (w.drewN q) :=
  ⟨rfl, l, List.Perm.refl _, fun i j hj hij => absurd hj (by omega), own_holdsE (w := w) h, ⟨rfl, rfl, rfl, Nat.le_refl _, fun _ _ _ => rfl⟩⟩

end Go.Proofs.Ytnembmpjnlipeaa.So
