/- The sort of i32: the package's type and its methods, the call of the library's sort. -/
import Derived.Test.YtnembmpjnlipeaaShelf
import Derived.Test.YtnembmpjnlipeaaPost
import Derived.Shelf.GgSortMore.Iface
import Derived.Sort.LotA
import Derived.WalkKit
import Derived.Lib.Hide
import Derived.Deep.QuietTactic
import Derived.RegionTactic
import Derived.Handy
namespace Go.Proofs.Ytnembmpjnlipeaa.So
open Go.Shelf Go.RowKit Go.Lib
set_option linter.unusedVariables false

theorem len52 (p : Option Addr) (n c : Nat) (W : World) : LenM Try.prog 77 (.slice p n c) n W := by
  unfold LenM
  go_enter Try.func77, Try.ntmps77
  go_wp2
  go_ret
  exact ⟨rfl, 0, rfl⟩

set_option maxHeartbeats 2000000 in
theorem less52 (blk off c size : Nat) (W : World) (G : Nat → Int) (hc : ∀ t, t < size → W.cell? ⟨blk, off + t, none⟩ = some (.int .i32 (G t))) (i j : Nat) (hi : i < size) (hj : j < size) (hsz : size < 4611686018427387904) :
    Calls Try.prog 78 #[.slice (some ⟨blk, off, none⟩) size c, .int .i64 i, .int .i64 j] W fun e w' => e = .returned (.bool (decide (G i < G j))) ∧ ∃ q, w' = W.drewN q := by
  have ci := hc i hi
  have cj := hc j hj
  clear hc
  go_enter Try.func78, Try.ntmps78
  go_wp2
  go_quiet (fail)
  go_wp2
  go_ret
  exact ⟨rfl, nq, rfl⟩

set_option maxHeartbeats 2000000 in
theorem swap52 (blk off c size : Nat) (W : World) (x y : Int) (i j : Nat) (hi : i < size) (hj : j < size) (hsz : size < 4611686018427387904)
    (ci : W.cell? ⟨blk, off + i, none⟩ = some (.int .i32 x)) (cj : W.cell? ⟨blk, off + j, none⟩ = some (.int .i32 y)) (fi : W.frozen? ⟨blk, off + i, none⟩ = false) (fj : W.frozen? ⟨blk, off + j, none⟩ = false) :
    Calls Try.prog 79 #[.slice (some ⟨blk, off, none⟩) size c, .int .i64 i, .int .i64 j] W fun e w' => e = .returned (.tuple #[]) ∧ ∃ q, w' = ((W.setCell ⟨blk, off + i, none⟩ (.int .i32 y)).setCell ⟨blk, off + j, none⟩ (.int .i32 x)).drewN q := by
  obtain ⟨v', hy'⟩ := cell?_setCell_some (w := W) (p := ⟨blk, off + i, none⟩) (x := .int .i32 y) (q := ⟨blk, off + j, none⟩) cj
  go_enter Try.func79, Try.ntmps79
  go_wp2
  go_region
  all_goals (try go_wp2)
  all_goals go_end0
  all_goals exact ⟨rfl, 1, rfl⟩

theorem lessM52 (blk off c : Nat) (d : Array Int) (w : World) (hH : Sort.Holds (Value.int .i32) w blk off d) (hblk : blk < w.heap.size) (hsz : d.size < 4611686018427387904) :
    LessM Try.prog 78 (.slice (some ⟨blk, off, none⟩) d.size c) (Value.int .i32) Sort.ltInt blk off d.size w := fun m os dk hs i j hi hj =>
  less52 blk off c d.size _ (fun t => dk[t]!) (fun t ht => ((holds_sortWorld (Value.int .i32) w blk off m d dk os hblk hH hs) t (by omega)).1) i j hi hj hsz
theorem swapM52 (blk off c size : Nat) (hsz : size < 4611686018427387904) : SwapM Try.prog 79 (.slice (some ⟨blk, off, none⟩) size c) (Value.int .i32) blk off size := fun W dk hH hs i j hi hj =>
  swap52 blk off c size W dk[i]! dk[j]! i j hi hj hsz (hH i (by omega)).1 (hH j (by omega)).1 (hH i (by omega)).2 (hH j (by omega)).2

/-- sort.Sort at the type. -/
theorem sort52 (w : World) (base : Nat) (A : Option Addr) (n c : Nat) (l : List Int) (hn : n ≤ 100000) (h : w.ownsRow base 21 1 (.slice A n c) n (l.map (Value.int .i32))) :
    Calls Try.prog 18 #[.iface 52 (.slice A n c)] w (SortPost (Value.int .i32) Sort.ltInt A l w) := by
  have hl : l.length = n := by have := h.1; simpa using this
  have rN : Reaches Try.prog 52 (.slice A n c) "Len" 77 := ⟨fun _ => by kernel_rfl, enters_of Try.func77 (by kernel_rfl) rfl⟩
  by_cases h1 : n ≤ 1
  · refine (Ytnembmpjnlipeaa.sort_Sort_tiny (α := Int) 52 _ 77 rN n h1 w (len52 A n c w)).mono ?_
    rintro e w' ⟨rfl, q, rfl⟩
    exact post_tiny h (by omega) q
  · obtain ⟨g, rfl, _⟩ := own_some h (by omega)
    obtain ⟨hH, hg⟩ := own_holds h
    have hd : l.toArray.size = n := by simpa using hl
    have rL : Reaches Try.prog 52 (.slice (some ⟨g, 0, none⟩) n c) "Less" 78 := ⟨fun _ => by kernel_rfl, enters_of Try.func78 (by kernel_rfl) rfl⟩
    have rS : Reaches Try.prog 52 (.slice (some ⟨g, 0, none⟩) n c) "Swap" 79 := ⟨fun _ => by kernel_rfl, enters_of Try.func79 (by kernel_rfl) rfl⟩
    have hless := lessM52 g 0 c l.toArray w hH hg (by omega)
    have hswap := swapM52 g 0 c l.toArray.size (by omega)
    rw [hd] at hless hswap
    refine (Ytnembmpjnlipeaa.sort_Sort_sorted 52 _ 77 78 79 rN rL rS (Value.int .i32) Sort.ltInt Sort.swo_ltInt g 0 l.toArray (by omega) (by omega) w (by rw [hd]; exact len52 _ n c w) (by rw [hd]; exact hless) (by rw [hd]; exact hswap) hH hg).mono ?_
    rintro e w' ⟨rfl, d', m, os, hP, hS, rfl⟩
    obtain ⟨p1, p2⟩ := perm_of hP
    exact post_sorted h p1 p2 hS

/-- The package's own sort. -/
theorem sorts_i32 (w : World) (base : Nat) (A : Option Addr) (n c : Nat) (l : List Int) (hn : n ≤ 100000) (h : w.ownsRow base 21 1 (.slice A n c) n (l.map (Value.int .i32))) :
    Calls Try.prog 15 #[.slice A n c] w (SortPost (Value.int .i32) Sort.ltInt A l w) := by
  have HS := Lib.hid (sort52 w base A n c l hn h)
  clear h
  go_enter Try.func15, Try.ntmps15
  go_wp2_with fail
  refine HS.out.mono ?_
  rintro e w' ⟨rfl, hp⟩
  have HP := Lib.hid hp
  clear hp HS
  go_wp2_with fail
  go_end0
  exact ⟨rfl, HP.out⟩

end Go.Proofs.Ytnembmpjnlipeaa.So
