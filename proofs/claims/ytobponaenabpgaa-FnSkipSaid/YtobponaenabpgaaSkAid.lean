/- Small helpers of FnSkip: below, zzFits3, Clone of fields. -/
import Derived.Test.YtobponaenabpgaaSkWrit3
import Derived.Test.YtobponaenabpgaaRdAid
namespace Go.Proofs.Ytobponaenabpgaa.Rd
open Go.ChangeShapes Go.WideShapes Go.ChangeAt Go.RowKit Sv Go.Proofs.YtobponaenabpgaaW Go.Proofs.YtobponaenabpgaaW.PrintWords
set_option linter.unusedVariables false

/-- A number from 0 to n - 1. -/
def UpTo (n : Nat) (w : World) (e : Ending) (w' : World) : Prop := ∃ k : Nat, k < n ∧ e = .returned (.int .i64 k) ∧ w = w'

theorem upto_of {w : World} {n : Nat} {x : Int} (h0 : 0 ≤ x) (h1 : x < n) : UpTo n w (.returned (.int .i64 x)) w := by
  obtain ⟨k, rfl⟩ := Int.eq_ofNat_of_zero_le h0
  exact ⟨k, by omega, rfl, rfl⟩

theorem below_5 (x : Int) (w : World) (h0 : -9223372036854775808 ≤ x) (h1 : x ≤ 9223372036854775807) :
    Calls Try.prog 24 #[.int .i64 x, .int .i64 5] w (UpTo 5 w) := by
  by_cases hm : x = 9223372036854775807
  · subst hm
    have hw : wrap64 (-wrap64 9223372036854775808) < 0 := by unfold wrap64; omega
    go_enter Try.func24, Try.ntmps24
    go_wp2
    go_ret
    exact upto_of (by omega) (by omega)
  · have h2 : x < 9223372036854775807 := by omega
    clear hm h1
    by_cases h : 0 ≤ x
    · go_enter Try.func24, Try.ntmps24
      go_wp2
      go_ret
      exact upto_of (by omega) (by omega)
    · have e := Int.tmod_nonneg (a := -(x + 1)) 5 (by omega)
      have e' := Int.tmod_lt_of_pos (-(x + 1)) (b := 5) (by omega)
      rw [Int.neg_tmod] at e e'
      go_enter Try.func24, Try.ntmps24
      go_wp2
      go_ret
      exact upto_of (by omega) (by omega)

theorem below_big (x : Int) (w : World) (h0 : -9223372036854775808 ≤ x) (h1 : x ≤ 9223372036854775807) :
    Calls Try.prog 24 #[.int .i64 x, .int .i64 536870911] w (UpTo 536870911 w) := by
  by_cases hm : x = 9223372036854775807
  · subst hm
    have hw : wrap64 (-wrap64 9223372036854775808) < 0 := by unfold wrap64; omega
    go_enter Try.func24, Try.ntmps24
    go_wp2
    go_ret
    exact upto_of (by omega) (by omega)
  · have h2 : x < 9223372036854775807 := by omega
    clear hm h1
    by_cases h : 0 ≤ x
    · go_enter Try.func24, Try.ntmps24
      go_wp2
      go_ret
      exact upto_of (by omega) (by omega)
    · have e := Int.tmod_nonneg (a := -(x + 1)) 536870911 (by omega)
      have e' := Int.tmod_lt_of_pos (-(x + 1)) (b := 536870911) (by omega)
      rw [Int.neg_tmod] at e e'
      go_enter Try.func24, Try.ntmps24
      go_wp2
      go_ret
      exact upto_of (by omega) (by omega)

def AnyB (w : World) (e : Ending) (w' : World) : Prop := ∃ b : Bool, e = .returned (.bool b) ∧ Below w.heap.size w w'

theorem fits3 (num kind n : Int) (ba : Option Addr) (bl bc : Nat) (ia : Option Addr) (il ic : Nat) (w : World) :
    Calls Try.prog 15 #[.agg #[.int .i64 num, .int .i64 kind, .int .u64 n, .slice ba bl bc, .slice ia il ic]] w (AnyB w) := by
  go_enter Try.func15, Try.ntmps15
  go_wp2
  all_goals go_returns
  all_goals exact ⟨_, rfl, by go_grown⟩

theorem info38 : (Try.prog.info? 38).map (fun i => (i.zero, i.size, i.bytes)) = some (some (.agg #[.int .i64 0, .int .i64 0, .int .u64 0, .slice none 0 0, .slice none 0 0]), 5, 72) := by kernel_rfl

theorem rowT_len (q : List Tr) : (q.flatMap cellsT).length = q.length * 5 := by
  induction q with
  | nil => rfl
  | cons x r ih => rw [List.flatMap_cons, List.length_append, ih]; simp [cellsT]; omega

theorem rowT_one (q : List Tr) : ∀ u ∈ q.flatMap cellsT, u.oneCell' = true := by
  intro u hu
  obtain ⟨x, _, hx⟩ := List.mem_flatMap.1 hu
  simp [cellsT] at hx
  rcases hx with rfl | rfl | rfl | rfl | rfl <;> rfl

def CloneT (q : List Tr) (w : World) (e : Ending) (w' : World) : Prop := ∃ A c, e = .returned (.slice A q.length c) ∧ w'.ownsRow w.heap.size 38 5 (.slice A q.length c) q.length (q.flatMap cellsT) ∧ Below w.heap.size w w'

theorem cloneT_nil (w : World) : Calls Try.prog 38 #[.slice none 0 0] w (CloneT [] w) := by
  have k1 := fun (w : World) (a : Option Addr) (l c : Nat) => Lib.run_eql_slice_nil (P := Try.prog) w 36 38 a l c 0 0 Try.underlying36
  go_enter Try.func38, Try.ntmps38
  go_wp2
  go_ret
  exact ⟨_, _, rfl, own_nil _ _ _ _, Below.refl _ _⟩

theorem cloneT_some (ad : Addr) (cap : Nat) (q : List Tr) (hl : q.length ≤ 1000) (w : World) (h : 0 < q.length → ∀ j u, (q.flatMap cellsT)[j]? = some u → w.cell? (ad.add j) = some u) : Calls Try.prog 38 #[.slice (some ad) q.length cap] w (CloneT q w) := by
  have k1 := fun (w : World) (a : Option Addr) (l c : Nat) => Lib.run_eql_slice_nil (P := Try.prog) w 36 38 a l c 0 0 Try.underlying36
  obtain ⟨i0, hi, hzz⟩ := Option.map_eq_some_iff.1 info38
  simp only [Prod.mk.injEq] at hzz
  have HZ := Lib.hid hzz
  have HI := Lib.hid hi
  have hA : Below w.heap.size w (w.alloc (.cells #[] 38)) := (Below.refl _ _).alloc (Nat.le_refl _) _
  have HN : Hid (∀ j u, (q.flatMap cellsT)[j]? = some u → (w.alloc (.cells #[] 38)).cell? (ad.add j) = some u) := fun j u hu => by
    have h0 : 0 < q.length := by
      rcases q with _ | ⟨x, r⟩
      · simp at hu
      · simp
    exact pw_cell_below hA (h h0 j u hu)
  have HO : Hid ((w.alloc (.cells #[] 38)).ownsRow w.heap.size 38 5 (.slice (some ⟨w.heap.size, 0, none⟩) 0 0) 0 []) := World.ownsRow_lit w #[] 0 (Nat.le_refl _) (by decide) (by simp)
  have HB := Lib.hid hA
  clear h hA hzz hi
  go_enter Try.func38, Try.ntmps38
  go_wp2_with (at_builtin; go_loud (refine wpList_append_own_at _ rfl (.tmp 5) (.tmp 6) 36 rfl w.heap.size 38 i0 _ 5 72 Try.underlying36 HI.out HZ.out.1 HZ.out.2.1 HZ.out.2.2 rfl (by decide) (.slice (some ⟨w.heap.size, 0, none⟩) 0 0) 0 [] rfl HO.out ad q.length cap (q.flatMap cellsT) rfl (rowT_len q) HN.out (rowT_one q) (by simp only [maxLen]; omega) (by omega) HB.out.size ?_); intro v1 w1 HO1 hg _ _; have HG := Lib.hid (HB.out.grown hg HB.out.size (own_base HO.out)); rw [Nat.zero_add, List.nil_append] at HO1; obtain ⟨A1, c1, rfl⟩ := own_slice HO1; have HP := Lib.hid HO1; clear HO1 hg)
  go_ret
  exact ⟨_, _, rfl, HP.out, HG.out⟩

theorem cloneT_any (a : Option Addr) (cap n : Nat) (q : List Tr) (hn : n = q.length) (hl : q.length ≤ 1000) (h0 : a = none → cap = 0) (w : World) (h : 0 < q.length → ∃ ad, a = some ad ∧ ∀ j u, (q.flatMap cellsT)[j]? = some u → w.cell? (ad.add j) = some u) : Calls Try.prog 38 #[.slice a n cap] w (CloneT q w) := by
  subst hn
  cases a with
  | none =>
    obtain rfl := h0 rfl
    obtain rfl : q = [] := by
      rcases Nat.eq_zero_or_pos q.length with h1 | h1
      · exact List.eq_nil_of_length_eq_zero h1
      · obtain ⟨ad, e, _⟩ := h h1
        cases e
    exact cloneT_nil w
  | some ad =>
    refine cloneT_some ad cap q hl w fun h1 j u hu => ?_
    obtain ⟨ad', e, hc⟩ := h h1
    cases e
    exact hc j u hu

end Go.Proofs.Ytobponaenabpgaa.Rd
