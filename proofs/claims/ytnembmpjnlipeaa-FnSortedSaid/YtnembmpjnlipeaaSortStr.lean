/- The sort of texts. -/
import Derived.Test.YtnembmpjnlipeaaShelf
import Derived.Test.YtnembmpjnlipeaaPost
import Derived.Sort.LotA
import Derived.Sort.EncStr
import Derived.WalkKit
import Derived.Lib.Hide
import Derived.Handy
namespace Go.Proofs.Ytnembmpjnlipeaa.So
open Go.Shelf Go.RowKit Go.Lib
set_option linter.unusedVariables false

theorem sort_str (w : World) (base : Nat) (A : Option Addr) (n c : Nat) (l : List (List UInt8)) (hn : n ≤ 100000) (h : w.ownsRow base 9 1 (.slice A n c) n (l.map encStr)) :
    Calls Try.prog 17 #[.slice A n c] w (SortPost encStr Sort.ltStr A l w) := by
  have hl : l.length = n := by have := h.1; simpa using this
  by_cases h1 : n = 0
  · subst h1
    refine (Ytnembmpjnlipeaa.sort_Strings_none A c w).mono ?_
    rintro e w' ⟨rfl, rfl⟩
    exact post_tiny h (by omega) 0
  · obtain ⟨g, rfl, _⟩ := own_some h (by omega)
    obtain ⟨hH, hg⟩ := own_holds h
    have hs := Ytnembmpjnlipeaa.sort_Strings g 0 c l w hH hg (by omega)
    rw [hl] at hs
    refine hs.mono ?_
    rintro e w' ⟨rfl, m, os, rfl⟩
    refine post_sorted h (by simp) (by simpa using (List.mergeSort_perm l _).symm) ?_
    intro i j _ hij hj
    have hp : (l.mergeSort fun x y => decide (x ≤ y)).Pairwise (fun x y => decide (x ≤ y) = true) :=
      List.pairwise_mergeSort (le := fun x y => decide (x ≤ y)) (by intro a b c h1 h2; simp only [decide_eq_true_eq] at *; exact List.le_trans h1 h2) (by intro a b; simp only [Bool.or_eq_true, decide_eq_true_eq]; exact List.le_total a b) l
    simp only [List.size_toArray] at hj
    have hlen : (l.mergeSort fun x y => decide (x ≤ y)).length = l.length := by simp
    have := List.pairwise_iff_getElem.1 hp i j (by omega) (by omega) hij
    simp only [decide_eq_true_eq] at this
    rw [getElem!_pos _ j (by simpa [hlen] using hj), getElem!_pos _ i (by simp [hlen]; omega)]
    simp only [List.getElem_toArray, Sort.ltStr, decide_eq_false_iff_not]
    exact this

theorem sorts_str (w : World) (base : Nat) (A : Option Addr) (n c : Nat) (l : List (List UInt8)) (hn : n ≤ 100000) (h : w.ownsRow base 9 1 (.slice A n c) n (l.map encStr)) :
    Calls Try.prog 12 #[.slice A n c] w (SortPost encStr Sort.ltStr A l w) := by
  have HS := Lib.hid (sort_str w base A n c l hn h)
  clear h
  go_enter Try.func12, Try.ntmps12
  go_wp2_with fail
  refine HS.out.mono ?_
  rintro e w' ⟨rfl, hp⟩
  have HP := Lib.hid hp
  clear hp HS
  go_wp2_with fail
  go_end0
  exact ⟨rfl, HP.out⟩

end Go.Proofs.Ytnembmpjnlipeaa.So
