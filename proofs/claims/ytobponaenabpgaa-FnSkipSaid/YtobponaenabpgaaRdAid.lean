/- Contracts of the small helpers of the laws: Clone, below, same. -/
import Derived.Test.YtobponaenabpgaaRsRaw
import Derived.WalkSpells
namespace Go.Proofs.Ytobponaenabpgaa.Rd
open Go.ChangeShapes Go.WideShapes Go.ChangeAt Go.RowKit Sv Go.Proofs.YtobponaenabpgaaW Go.Proofs.YtobponaenabpgaaW.PrintWords
set_option linter.unusedVariables false

theorem info3 : (Try.prog.info? 3).map (fun i => (i.zero, i.size, i.bytes)) = some (some (.int .i64 0), 1, 8) := by kernel_rfl

/-- A number from 0 to 6. -/
def Kind (w : World) (e : Ending) (w' : World) : Prop := ∃ k : Nat, k ≤ 6 ∧ e = .returned (.int .i64 k) ∧ w = w'

theorem kind_of {w : World} {x : Int} (h0 : 0 ≤ x) (h1 : x ≤ 6) : Kind w (.returned (.int .i64 x)) w := by
  obtain ⟨k, rfl⟩ := Int.eq_ofNat_of_zero_le h0
  exact ⟨k, by omega, rfl, rfl⟩

theorem below_any (x : Int) (w : World) (h0 : -9223372036854775808 ≤ x) (h1 : x ≤ 9223372036854775807) :
    Calls Try.prog 24 #[.int .i64 x, .int .i64 7] w (Kind w) := by
  by_cases hm : x = 9223372036854775807
  · subst hm
    have hw : wrap64 (-wrap64 9223372036854775808) < 0 := by unfold wrap64; omega
    go_enter Try.func24, Try.ntmps24
    go_wp2
    go_ret
    exact kind_of (by omega) (by omega)
  · have h2 : x < 9223372036854775807 := by omega
    clear hm h1
    by_cases h : 0 ≤ x
    · go_enter Try.func24, Try.ntmps24
      go_wp2
      go_ret
      exact kind_of (by omega) (by omega)
    · have e := Int.tmod_nonneg (a := -(x + 1)) 7 (by omega)
      have e' := Int.tmod_lt_of_pos (-(x + 1)) (b := 7) (by omega)
      rw [Int.neg_tmod] at e e'
      go_enter Try.func24, Try.ntmps24
      go_wp2
      go_ret
      exact kind_of (by omega) (by omega)

theorem same_true (k : Nat) (n : Int) (l : List Int) (a1 a2 : Option Addr) (c1 c2 : Nat) (w : World) (h1 : Sl8 w a1 l) (h2 : Sl8 w a2 l) :
    Calls Try.prog 27 #[.agg #[.int .i64 k, .int .u64 n, .slice a1 l.length c1], .agg #[.int .i64 k, .int .u64 n, .slice a2 l.length c2]] w fun e w' => e = .returned (.bool true) ∧ Below w.heap.size w w' := by
  have s1 := fun W (h : Below w.heap.size w W) => sl8_string (h1.below h) c1
  have s2 := fun W (h : Below w.heap.size w W) => sl8_string (h2.below h) c2
  have t1 := s1 ((w.alloc (.cells #[.int .i64 k, .int .u64 n, .slice a1 l.length c1] 62)).alloc (.cells #[.int .i64 k, .int .u64 n, .slice a2 l.length c2] 58)) (by go_grown)
  have t2 := s2 ((w.alloc (.cells #[.int .i64 k, .int .u64 n, .slice a1 l.length c1] 62)).alloc (.cells #[.int .i64 k, .int .u64 n, .slice a2 l.length c2] 58)) (by go_grown)
  clear s1 s2 h1 h2
  go_enter Try.func27, Try.ntmps27
  go_wp2
  go_ret
  exact ⟨rfl, by go_grown⟩

def ClonePost (l : List Int) (w : World) (e : Ending) (w' : World) : Prop := ∃ v, e = .returned v ∧ Row8 w.heap.size w' v l ∧ Below w.heap.size w w'

theorem clone_nil (w : World) : Calls Try.prog 19 #[.slice none 0 0] w (ClonePost [] w) := by
  have k1 := fun (w : World) (a : Option Addr) (l c : Nat) => Lib.run_eql_slice_nil (P := Try.prog) w 23 5 a l c 0 0 Try.underlying23
  go_enter Try.func19, Try.ntmps19
  go_wp2
  go_ret
  exact ⟨_, rfl, own_nil _ _ _ _, Below.refl _ _⟩


theorem reads_holds {w : World} {a : Option Addr} {l : List Int} (h : Holds8 w a l) : ReadsInt w .u8 a l.length l := ⟨rfl, h.2.1, h.2.2⟩

theorem clone_some (ad : Addr) (cap : Nat) (l : List Int) (hl : l.length ≤ 100000) (w : World) (h : Holds8 w (some ad) l) : Calls Try.prog 19 #[.slice (some ad) l.length cap] w (ClonePost l w) := by
  have k1 := fun (w : World) (a : Option Addr) (l c : Nat) => Lib.run_eql_slice_nil (P := Try.prog) w 23 5 a l c 0 0 Try.underlying23
  have hA : Below w.heap.size w (w.alloc (.cells #[] 5)) := (Below.refl _ _).alloc (Nat.le_refl _) _
  have HR := Lib.hid (reads_holds (holds_below h hA))
  have HO := Lib.hid (own_lit w w.heap.size 5 .u8 [] (Nat.le_refl _) (by simp))
  have HB := Lib.hid hA
  clear h hA
  go_enter Try.func19, Try.ntmps19
  go_wp2_with (at_builtin; refine print_append_row (w0 := w) w.heap.size rfl (.tmp 5) (.tmp 6) 23 5 .u8 1 rfl Try.underlying23 info5 (by decide) (.slice (some ⟨w.heap.size, 0, none⟩) 0 0) [] l (some ad) l.length cap rfl rfl HO.out HR.out HB.out HB.out.size (by simp; omega) ?_; intro v1 w1 HO1 HB1 _ _; have HP := Lib.hid HO1; have HBB := Lib.hid HB1; clear HO1 HB1)
  go_ret
  exact ⟨_, rfl, HP.out, HBB.out⟩

/-- A slice of ints as the walk is told of it. -/
def Holds64 (w : World) (a : Option Addr) (l : List Int) : Prop := l.length ≤ 9223372036854775807 ∧ (0 < l.length → ∃ ad, a = some ad ∧ ∀ j, j < l.length → w.cell? (ad.add j) = some (.int .i64 (l.getD j 0)))

def ClonePost64 (l : List Int) (w : World) (e : Ending) (w' : World) : Prop := ∃ v, e = .returned v ∧ w'.ownsRow w.heap.size 3 1 v l.length (nums .i64 l) ∧ Below w.heap.size w w'

theorem clone64_nil (w : World) : Calls Try.prog 23 #[.slice none 0 0] w (ClonePost64 [] w) := by
  have k1 := fun (w : World) (a : Option Addr) (l c : Nat) => Lib.run_eql_slice_nil (P := Try.prog) w 51 3 a l c 0 0 Try.underlying51
  go_enter Try.func23, Try.ntmps23
  go_wp2
  go_ret
  exact ⟨_, rfl, own_nil _ _ _ _, Below.refl _ _⟩

theorem clone64_some (ad : Addr) (cap : Nat) (l : List Int) (hl : l.length ≤ 100000) (w : World) (h : Holds64 w (some ad) l) : Calls Try.prog 23 #[.slice (some ad) l.length cap] w (ClonePost64 l w) := by
  have k1 := fun (w : World) (a : Option Addr) (l c : Nat) => Lib.run_eql_slice_nil (P := Try.prog) w 51 3 a l c 0 0 Try.underlying51
  have hA : Below w.heap.size w (w.alloc (.cells #[] 3)) := (Below.refl _ _).alloc (Nat.le_refl _) _
  have hr : ReadsInt (w.alloc (.cells #[] 3)) .i64 (some ad) l.length l := ⟨rfl, h.1, fun h0 => by
    obtain ⟨a, e, hc⟩ := h.2 h0
    exact ⟨a, e, fun j hj => pw_cell_below hA (hc j hj)⟩⟩
  have HR := Lib.hid hr
  have HO := Lib.hid (own_lit w w.heap.size 3 .i64 [] (Nat.le_refl _) (by simp))
  have HB := Lib.hid hA
  clear h hA hr
  go_enter Try.func23, Try.ntmps23
  go_wp2_with (at_builtin; refine print_append_row (w0 := w) w.heap.size rfl (.tmp 5) (.tmp 6) 51 3 .i64 8 rfl Try.underlying51 info3 (by decide) (.slice (some ⟨w.heap.size, 0, none⟩) 0 0) [] l (some ad) l.length cap rfl rfl HO.out HR.out HB.out HB.out.size (by simp; omega) ?_; intro v1 w1 HO1 HB1 _ _; have HP := Lib.hid HO1; have HBB := Lib.hid HB1; clear HO1 HB1)
  go_ret
  exact ⟨_, rfl, HP.out, HBB.out⟩

end Go.Proofs.Ytobponaenabpgaa.Rd
