/- The buffer's reading of bytes and texts behind their number, where they stand there. -/
import Derived.Test.YtobponaenabpgaaRdRaw2
import Derived.Test.YtobponaenabpgaaSvWrite
namespace Go.Proofs.Ytobponaenabpgaa.Rd
open Go.ChangeShapes Go.WideShapes Go.ChangeAt Go.RowKit Sv Go.Proofs.YtobponaenabpgaaW Go.Proofs.YtobponaenabpgaaW.PrintWords
set_option linter.unusedVariables false

/-- Where a part is handed back. -/
def PartPost (B k x g : Nat) (w : World) (e : Ending) (w' : World) : Prop := ∃ a c n, (0 < x → a = some ⟨g, k, none⟩) ∧ e = .returned (.tuple #[.slice a x c, .nilIface]) ∧ w' = moved (w.drewN n) B (k + x)

set_option maxHeartbeats 400000 in
theorem part_some (w : World) (B g : Nat) (cap n i : Nat) (x k : Nat) (w1 : World) (hn : n ≤ 100000) (hk : k + x ≤ n) (hcap : n ≤ cap) (hg : ¬ g = B)
    (c0 : w1.cell? ⟨B, 0, none⟩ = some (.slice (some ⟨g, 0, none⟩) n cap)) (c1 : w1.cell? ⟨B, 1, none⟩ = some (.int .i64 k)) (f1 : w1.frozen? ⟨B, 1, none⟩ = false)
    (Hv : Calls Try.prog 47 #[.pointer (some ⟨B, 0, none⟩)] w fun e w' => e = .returned (.tuple #[.int .u64 x, .nilIface]) ∧ w1 = w') :
    Calls Try.prog 52 #[.pointer (some ⟨B, 0, none⟩), .bool false] w (PartPost B k x g w1) := by
  have H := Lib.hid Hv
  clear Hv
  go_enter Try.func52, Try.ntmps52
  go_wp2_with fail
  refine H.out.mono ?_
  rintro e w2 ⟨rfl, rfl⟩
  go_wp2
  go_quiet (fail)
  go_wp2
  · go_returns
    exact ⟨_, _, _, fun h => by omega, rfl, (moved_eq _ B _ _ (by omega)).symm⟩
  · go_returns
    exact ⟨_, _, _, fun _ => rfl, rfl, (moved_eq _ B _ _ (by omega)).symm⟩

theorem size5' : (Try.prog.info? 5).map (·.size) = some 1 := by kernel_rfl
theorem made_at (w : World) (n : Nat) : (w.alloc (.cells (madeCells #[.int .u8 0] n) 5)).heap[w.heap.size]? = some (.cells (List.replicate n (.int .u8 0)).toArray 5 (0, 0)) := by
  rw [heap_alloc_new]
  have := toList_madeCells_one (.int .u8 0) n
  rw [← this]
theorem copy_cells {w : World} {g k : Nat} {l : List Int} (h : ∀ j, j < l.length → w.cell? ⟨g, k + j, none⟩ = some (.int .u8 (at8 l j))) (o : Obj) :
    ∀ j v, (nums .u8 l)[j]? = some v → (w.alloc o).cell? ((⟨g, k, none⟩ : Addr).add j) = some v := by
  intro j v hj
  have hlt : j < l.length := by
    rcases Nat.lt_or_ge j l.length with h | h
    · exact h
    · simp [nums, List.getElem?_eq_none h] at hj
  simp [nums, List.getElem?_eq_getElem hlt] at hj
  subst hj
  rw [WideShapes.add_plain, Lib.cell?_alloc_some o (h j hlt)]
  simp [at8, List.getD_eq_getElem?_getD, List.getElem?_eq_getElem hlt]

theorem own_of_splice {w : World} {g : Nat} {l : List Int} (hl : l.length ≤ 100000) (h : w.heap[g]? = some (.cells (splice (List.replicate l.length (.int .u8 0)) 0 (nums .u8 l)).toArray 5 (0, 0))) :
    w.ownsRow g 5 1 (.slice (some ⟨g, 0, none⟩) l.length l.length) l.length (nums .u8 l) := by
  have e : splice (List.replicate l.length (Value.int .u8 0)) 0 (nums .u8 l) = nums .u8 l := by
    simp [splice, nums]
  rw [e] at h
  exact ⟨by simp [nums], .inr ⟨g, l.length, _, rfl, Nat.le_refl _, h, Nat.le_refl _, by simp only [maxLen]; omega, by simp [nums], List.take_of_length_le (by simp [nums])⟩⟩

/-- Where the bytes are copied. -/
def CopyPost (B k : Nat) (l : List Int) (w : World) (e : Ending) (w' : World) : Prop := ∃ a c w3, e = .returned (.tuple #[.slice a l.length c, .nilIface]) ∧ w3.ownsRow w.heap.size 5 1 (.slice a l.length c) l.length (nums .u8 l) ∧ Below w.heap.size w w3 ∧ w' = moved w3 B (k + l.length)

set_option maxHeartbeats 1000000 in
theorem copy_some (w : World) (B g : Nat) (cap n i : Nat) (l : List Int) (k : Nat) (w1 : World) (hBs : B < w1.heap.size) (hn : n ≤ 100000) (hk : k + l.length ≤ n) (hcap : n ≤ cap) (hg : ¬ g = B)
    (c0 : w1.cell? ⟨B, 0, none⟩ = some (.slice (some ⟨g, 0, none⟩) n cap)) (c1 : w1.cell? ⟨B, 1, none⟩ = some (.int .i64 k)) (f1 : w1.frozen? ⟨B, 1, none⟩ = false)
    (hl : ∀ j, j < l.length → w1.cell? ⟨g, k + j, none⟩ = some (.int .u8 (at8 l j)))
    (Hv : Calls Try.prog 47 #[.pointer (some ⟨B, 0, none⟩)] w fun e w' => e = .returned (.tuple #[.int .u64 l.length, .nilIface]) ∧ w1 = w') :
    Calls Try.prog 52 #[.pointer (some ⟨B, 0, none⟩), .bool true] w (CopyPost B k l w1) := by
  have H := Lib.hid Hv
  have HL := Lib.hid hl
  have HM := print_make (P := Try.prog) 23 5 .u8 1 Try.underlying23 info5 (by decide) l.length (by omega)
  have hkn : k ≤ n := by omega
  clear Hv hl
  by_cases hck : cap = k
  all_goals
    go_enter Try.func52, Try.ntmps52
    go_wp2_with fail
    refine H.out.mono ?_
    rintro e w2 ⟨rfl, rfl⟩
    go_wp2
    go_region_law (refine step_copy_splice rfl (.tmp 66) (.tmp 75) 23 23 rfl 5 Try.underlying23 size5' _ _ _ _ _ _ rfl rfl w1.heap.size 0 (List.replicate l.length (.int .u8 0)) 5 (made_at w1 l.length) (nums .u8 l) (by rw [nums_length]; show _ = min _ _; omega) (fun hp => by rw [nums_length] at hp; first | exact ⟨rfl, _, rfl, copy_cells HL.out _⟩ | omega) (by simp [nums]) (by simp [nums, Value.oneCell']) w1.heap.size w1 (by repeat (first | exact (Below.refl _ _).alloc (Nat.le_refl _) _ | refine Below.drew ?_)) (Nat.le_refl _) ?_; intro w3 hg3 hb3)
  all_goals
    have q0 := (hb3.cell (p := ⟨B, 0, none⟩) hBs).trans c0
    have q1 := (hb3.cell (p := ⟨B, 1, none⟩) hBs).trans c1
    have q2 := (hb3.frozen (p := ⟨B, 1, none⟩) hBs).trans f1
    have HB3 := Lib.hid hb3
    clear hb3
    go_wp2
    go_returns
    exact ⟨_, _, w3, rfl, own_of_splice (by omega) hg3.out, HB3.out, (moved_eq _ B _ _ (by omega)).symm⟩

end Go.Proofs.Ytobponaenabpgaa.Rd
