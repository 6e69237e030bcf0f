/- The sort of u64: the package's type and its methods, the call of the library's sort. -/
import Derived.Test.YtnembmpjnlipeaaShelf
import Derived.Test.YtnembmpjnlipeaaPost
import Derived.Shelf.GgSortMore.Iface
import Derived.Sort.LotA
import Derived.WalkKit
import Derived.Lib.Hide
import Derived.Deep.QuietTactic
import Derived.RegionTactic
import Derived.Handy
namespace Go.Proofs.Ytnembmpjnlipeaa.So
open Go.Shelf Go.RowKit Go.Lib
set_option linter.unusedVariables false

theorem len51 (p : Option Addr) (n c : Nat) (W : World) : LenM Try.prog 74 (.slice p n c) n W := by
  unfold LenM
  go_enter Try.func74, Try.ntmps74
  go_wp2
  go_ret
  exact ⟨rfl, 0, rfl⟩

set_option maxHeartbeats 2000000 in
theorem less51 (blk off c size : Nat) (W : World) (G : Nat → Int) (hc : ∀ t, t < size → W.cell? ⟨blk, off + t, none⟩ = some (.int .u64 (G t))) (i j : Nat) (hi : i < size) (hj : j < size) (hsz : size < 4611686018427387904) :
    Calls Try.prog 75 #[.slice (some ⟨blk, off, none⟩) size c, .int .i64 i, .int .i64 j] W fun e w' => e = .returned (.bool (decide (G i < G j))) ∧ ∃ q, w' = W.drewN q := by
  have ci := hc i hi
  have cj := hc j hj
  clear hc
  go_enter Try.func75, Try.ntmps75
  go_wp2
  go_quiet (fail)
  go_wp2
  go_ret
  exact ⟨rfl, nq, rfl⟩

set_option maxHeartbeats 2000000 in
theorem swap51 (blk off c size : Nat) (W : World) (x y : Int) (i j : Nat) (hi : i < size) (hj : j < size) (hsz : size < 4611686018427387904)
    (ci : W.cell? ⟨blk, off + i, none⟩ = some (.int .u64 x)) (cj : W.cell? ⟨blk, off + j, none⟩ = some (.int .u64 y)) (fi : W.frozen? ⟨blk, off + i, none⟩ = false) (fj : W.frozen? ⟨blk, off + j, none⟩ = false) :
    Calls Try.prog 76 #[.slice (some ⟨blk, off, none⟩) size c, .int .i64 i, .int .i64 j] W fun e w' => e = .returned (.tuple #[]) ∧ ∃ q, w' = ((W.setCell ⟨blk, off + i, none⟩ (.int .u64 y)).setCell ⟨blk, off + j, none⟩ (.int .u64 x)).drewN q := by
  obtain ⟨v', hy'⟩ := cell?_setCell_some (w := W) (p := ⟨blk, off + i, none⟩) (x := .int .u64 y) (q := ⟨blk, off + j, none⟩) cj
  go_enter Try.func76, Try.ntmps76
  go_wp2
  go_region
  all_goals (try go_wp2)
  all_goals go_end0
  all_goals exact ⟨rfl, 1, rfl⟩

theorem lessM51 (blk off c : Nat) (d : Array Int) (w : World) (hH : Sort.Holds (Value.int .u64) w blk off d) (hblk : blk < w.heap.size) (hsz : d.size < 4611686018427387904) :
    LessM Try.prog 75 (.slice (some ⟨blk, off, none⟩) d.size c) (Value.int .u64) Sort.ltInt blk off d.size w := fun m os dk hs i j hi hj =>
  less51 blk off c d.size _ (fun t => dk[t]!) (fun t ht => ((holds_sortWorld (Value.int .u64) w blk off m d dk os hblk hH hs) t (by omega)).1) i j hi hj hsz
theorem swapM51 (blk off c size : Nat) (hsz : size < 4611686018427387904) : SwapM Try.prog 76 (.slice (some ⟨blk, off, none⟩) size c) (Value.int .u64) blk off size := fun W dk hH hs i j hi hj =>
  swap51 blk off c size W dk[i]! dk[j]! i j hi hj hsz (hH i (by omega)).1 (hH j (by omega)).1 (hH i (by omega)).2 (hH j (by omega)).2

/-- sort.Sort at the type. -/
theorem sort51 (w : World) (base : Nat) (A : Option Addr) (n c : Nat) (l : List Int) (hn : n ≤ 100000) (h : w.ownsRow base 34 1 (.slice A n c) n (l.map (Value.int .u64))) :
    Calls Try.prog 18 #[.iface 51 (.slice A n c)] w (SortPost (Value.int .u64) Sort.ltInt A l w) := by
  have hl : l.length = n := by have := h.1; simpa using this
  have rN : Reaches Try.prog 51 (.slice A n c) "Len" 74 := ⟨fun _ => by kernel_rfl, enters_of Try.func74 (by kernel_rfl) rfl⟩
  by_cases h1 : n ≤ 1
  · refine (Ytnembmpjnlipeaa.sort_Sort_tiny (α := Int) 51 _ 74 rN n h1 w (len51 A n c w)).mono ?_
    rintro e w' ⟨rfl, q, rfl⟩
    exact post_tiny h (by omega) q
  · obtain ⟨g, rfl, _⟩ := own_some h (by omega)
    obtain ⟨hH, hg⟩ := own_holds h
    have hd : l.toArray.size = n := by simpa using hl
    have rL : Reaches Try.prog 51 (.slice (some ⟨g, 0, none⟩) n c) "Less" 75 := ⟨fun _ => by kernel_rfl, enters_of Try.func75 (by kernel_rfl) rfl⟩
    have rS : Reaches Try.prog 51 (.slice (some ⟨g, 0, none⟩) n c) "Swap" 76 := ⟨fun _ => by kernel_rfl, enters_of Try.func76 (by kernel_rfl) rfl⟩
    have hless := lessM51 g 0 c l.toArray w hH hg (by omega)
    have hswap := swapM51 g 0 c l.toArray.size (by omega)
    rw [hd] at hless hswap
    refine (Ytnembmpjnlipeaa.sort_Sort_sorted 51 _ 74 75 76 rN rL rS (Value.int .u64) Sort.ltInt Sort.swo_ltInt g 0 l.toArray (by omega) (by omega) w (by rw [hd]; exact len51 _ n c w) (by rw [hd]; exact hless) (by rw [hd]; exact hswap) hH hg).mono ?_
    rintro e w' ⟨rfl, d', m, os, hP, hS, rfl⟩
    obtain ⟨p1, p2⟩ := perm_of hP
    exact post_sorted h p1 p2 hS

/-- The package's own sort. -/
theorem sorts_u64 (w : World) (base : Nat) (A : Option Addr) (n c : Nat) (l : List Int) (hn : n ≤ 100000) (h : w.ownsRow base 34 1 (.slice A n c) n (l.map (Value.int .u64))) :
    Calls Try.prog 14 #[.slice A n c] w (SortPost (Value.int .u64) Sort.ltInt A l w) := by
  have HS := Lib.hid (sort51 w base A n c l hn h)
  clear h
  go_enter Try.func14, Try.ntmps14
  go_wp2_with fail
  refine HS.out.mono ?_
  rintro e w' ⟨rfl, hp⟩
  have HP := Lib.hid hp
  clear hp HS
  go_wp2_with fail
  go_end0
  exact ⟨rfl, HP.out⟩

end Go.Proofs.Ytnembmpjnlipeaa.So
