/- The buffer's reading of bytes and texts behind their number, and what is left. -/
import Derived.Test.YtobponaenabpgaaRdZig
import Derived.Laws.CopyOwn
import Derived.Laws.OwnMore
import Derived.Laws.BytesArg
namespace Go.Proofs.Ytobponaenabpgaa.Rd
open Go.ChangeShapes Go.WideShapes Go.ChangeAt Go.RowKit Sv Go.Proofs.YtobponaenabpgaaW Go.Proofs.YtobponaenabpgaaW.PrintWords
set_option linter.unusedVariables false

theorem moved_grown (w : World) (B k : Nat) : w.grownBy (moved w B k) (some B) :=
  ⟨rfl, rfl, rfl, by simp [moved], fun j _ hj => heap_setCell_other w ⟨B, 1, none⟩ j _ (fun e => hj (by simp [e]))⟩

theorem IsBuf.lt {w : World} {B : Nat} {A : Option Addr} {cap : Nat} {b : List Int} {i : Nat} (h : IsBuf w B A cap b i) : B < w.heap.size := World.block_lt_of_cell? w _ h.c0

theorem frozen_set (w : World) (a b : Addr) (v : Value) : (w.setCell a v).frozen? b = w.frozen? b := by
  exact World.frozen?_setCell w a b v

theorem IsBuf.moved {w : World} {B : Nat} {A : Option Addr} {cap : Nat} {b : List Int} {i : Nat} (h : IsBuf w B A cap b i) (k : Nat) (hk : k ≤ b.length) : IsBuf (moved w B k) B A cap b k where
  c0 := (World.cell?_setCell_other _ _ _ _ (by simp)).trans h.c0
  c1 := World.cell?_setCell_same _ _ _ h.c1
  f1 := (frozen_set _ _ _ _).trans h.f1
  le := hk
  small := h.small
  room := h.room
  holds := ⟨h.holds.1, h.holds.2.1, fun hn => by
    obtain ⟨ad, e, hc⟩ := h.holds.2.2 hn
    obtain ⟨g, rfl, hg⟩ := h.ne ad e
    refine ⟨_, e, fun j hj => (World.cell?_setCell_other _ _ _ _ ?_).trans (hc j hj)⟩
    rw [PrintWords.add_plain]
    simp only [ne_eq, Addr.mk.injEq, not_and]
    intro e
    exact absurd e.symm hg⟩
  ne := h.ne

theorem holds_below {w w1 : World} {a : Option Addr} {l : List Int} (h : Holds8 w a l) (hb : Below w.heap.size w w1) : Holds8 w1 a l :=
  ⟨h.1, h.2.1, fun hn => by
    obtain ⟨ad, e, hc⟩ := h.2.2 hn
    exact ⟨ad, e, fun j hj => pw_cell_below hb (hc j hj)⟩⟩

theorem IsBuf.below {w w1 : World} {B : Nat} {A : Option Addr} {cap : Nat} {b : List Int} {i : Nat} (h : IsBuf w B A cap b i) (hb : Below w.heap.size w w1) : IsBuf w1 B A cap b i where
  c0 := pw_cell_below hb h.c0
  c1 := pw_cell_below hb h.c1
  f1 := (hb.frozen h.lt).trans h.f1
  le := h.le
  small := h.small
  room := h.room
  holds := holds_below h.holds hb
  ne := h.ne

/-- The bytes that a part of a row holds. -/
def Sl8 (w : World) (a : Option Addr) (l : List Int) : Prop := Bytes8 l ∧ (0 < l.length → ∃ g off, a = some ⟨g, off, none⟩ ∧ ∀ j, j < l.length → w.cell? ⟨g, off + j, none⟩ = some (.int .u8 (at8 l j)))

theorem Sl8.below {w w1 : World} {a : Option Addr} {l : List Int} (h : Sl8 w a l) (hb : Below w.heap.size w w1) : Sl8 w1 a l :=
  ⟨h.1, fun hn => by
    obtain ⟨g, off, e, hc⟩ := h.2 hn
    exact ⟨g, off, e, fun j hj => pw_cell_below hb (hc j hj)⟩⟩

theorem strOfNums_nil : strOfNums [] = ByteArray.empty := rfl

theorem sl8_string {w : World} {a : Option Addr} {l : List Int} (h : Sl8 w a l) (cap : Nat) : (convert 23 9 (.slice a l.length cap)).run Try.prog w = .ok (.string (strOfNums l)) w := by
  by_cases h0 : 0 < l.length
  · obtain ⟨g, off, rfl, hc⟩ := h.2 h0
    exact run_convert_bytes_arg w 23 5 Try.underlying23 Try.underlying5 g off l.length cap l rfl hc 9 Try.underlying9
  · obtain rfl : l = [] := List.eq_nil_of_length_eq_zero (by omega)
    cases a with
    | none => exact run_convert_bytes_nil w 23 5 Try.underlying23 Try.underlying5 0 cap 9 Try.underlying9
    | some ad =>
      rw [show (([] : List Int).length) = 0 from rfl, run_convert_bytes_string w 23 9 5 _ 0 cap Try.underlying23 Try.underlying5 Try.underlying9]
      exact run_bytesToString w ad 0 cap [] rfl

/-- What is left, by what it holds. -/
def RestPost (g n i : Nat) (w : World) (e : Ending) (w' : World) : Prop := ∃ a c, (i < n → a = ⟨g, i, none⟩) ∧ e = .returned (.slice (some a) (n - i) c) ∧ Below w.heap.size w w'

theorem rest_some (w : World) (B g cap n i : Nat) (hn : n ≤ 100000) (hi : i ≤ n) (hcap : n ≤ cap) (c0 : w.cell? ⟨B, 0, none⟩ = some (.slice (some ⟨g, 0, none⟩) n cap)) (c1 : w.cell? ⟨B, 1, none⟩ = some (.int .i64 i)) :
    Calls Try.prog 54 #[.pointer (some ⟨B, 0, none⟩)] w (RestPost g n i w) := by
  go_enter Try.func54, Try.ntmps54
  go_wp2
  go_quiet (fail)
  go_wp2
  · go_ret
    exact ⟨_, _, fun h => by omega, rfl, below_drewN (Below.refl _ _) _⟩
  · go_ret
    exact ⟨_, _, fun _ => rfl, rfl, below_drewN (Below.refl _ _) _⟩

theorem rest_nil (w : World) (B cap : Nat) (c0 : w.cell? ⟨B, 0, none⟩ = some (.slice none 0 cap)) (c1 : w.cell? ⟨B, 1, none⟩ = some (.int .i64 0)) :
    Calls Try.prog 54 #[.pointer (some ⟨B, 0, none⟩)] w fun e w' => e = .returned (.slice none 0 cap) ∧ Below w.heap.size w w' := by
  go_enter Try.func54, Try.ntmps54
  go_wp2
  go_quiet (fail)
  go_wp2
  all_goals
    go_ret
    exact ⟨rfl, below_drewN (Below.refl _ _) _⟩

end Go.Proofs.Ytobponaenabpgaa.Rd
