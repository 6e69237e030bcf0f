/- Contracts of the reference's Read: numbers of 32 and 64 bits. -/
import Derived.Test.YtobponaenabpgaaRsWalks
namespace Go.Proofs.Ytobponaenabpgaa.Rd
open Go.ChangeShapes Go.WideShapes Go.ChangeAt Go.RowKit Sv Go.Proofs.YtobponaenabpgaaW Go.Proofs.YtobponaenabpgaaW.PrintWords
set_option linter.unusedVariables false

theorem or_low (a c : Int) (h0 : 0 ≤ a) (h1 : a * 256 < 18446744073709551616) (c0 : 0 ≤ c) (c1 : c < 256) : bits .or .u64 (a * 256) c = c + 256 * a := by
  obtain ⟨a, rfl⟩ := Int.eq_ofNat_of_zero_le h0
  obtain ⟨c, rfl⟩ := Int.eq_ofNat_of_zero_le c0
  rw [show (a : Int) * 256 = ((a * 256 : Nat) : Int) from by rw [Int.natCast_mul]; rfl, u64_or_nat _ _ (by omega) (by omega)]
  have := Nat.shiftLeft_add_eq_or_of_lt (i := 8) (b := c) (by omega) a
  rw [Nat.shiftLeft_eq] at this
  rw [show (2 : Nat) ^ 8 = 256 from by decide] at this
  rw [← this]
  omega

theorem W_bd {l : List Int} (hB : Bytes8 l) (n : Nat) (hl : l.length ≤ n) : 0 ≤ W l ∧ W l < 256 ^ n := by
  induction l generalizing n with
  | nil => exact ⟨by simp [W], by simp only [W]; exact Int.pow_pos (by omega)⟩
  | cons c r ih =>
    cases n with
    | zero => simp at hl
    | succ n =>
      have h := ih (fun x hx => hB x (List.mem_cons_of_mem _ hx)) n (by simpa using hl)
      have hc := hB c (by simp)
      simp only [W]
      rw [Int.pow_succ]
      omega

theorem W_drop {l : List Int} {j : Nat} (hj : j < l.length) : W (l.drop j) = at8 l j + 256 * W (l.drop (j + 1)) := by
  rw [List.drop_eq_getElem_cons hj]
  simp [W, at8, List.getD_eq_getElem?_getD, List.getElem?_eq_getElem hj]

def Fix (w : World) (x : Int) (k : Int) (wr : World) : Prop :=
  wr.cell? ⟨w.heap.size, 0, none⟩ = some (.int .i64 k) ∧ wr.cell? ⟨w.heap.size, 1, none⟩ = some (.int .u64 x) ∧ wr.cell? ⟨w.heap.size, 2, none⟩ = some (.slice none 0 0) ∧
  wr.frozen? ⟨w.heap.size, 0, none⟩ = false ∧ wr.frozen? ⟨w.heap.size, 1, none⟩ = false ∧ wr.frozen? ⟨w.heap.size, 2, none⟩ = false ∧ Below w.heap.size w wr

theorem Fix.set {w wr : World} {x k : Int} (h : Fix w x k wr) {y z : Int} (e : y = z) : Fix w z k (wr.setCell ⟨w.heap.size, 1, none⟩ (.int .u64 y)).drew := by
  subst e
  obtain ⟨q0, q1, q2, f0, f1, f2, hb⟩ := h
  exact ⟨(World.cell?_setCell_other _ _ _ _ (by simp)).trans q0, World.cell?_setCell_same _ _ _ q1, (World.cell?_setCell_other _ _ _ _ (by simp)).trans q2,
    (frozen_set _ _ _ _).trans f0, (frozen_set _ _ _ _).trans f1, (frozen_set _ _ _ _).trans f2, (hb.setCell (Nat.le_refl _) _).drew⟩

set_option maxHeartbeats 1000000 in
set_option maxRecDepth 100000 in
theorem spec_1 (w : World) (g off : Nat) (cap : Nat) (n : Nat) (hn : n ≤ 100000) (hcap : n ≤ cap) (l : List Int) (hl : l.length = 4) (h4 : 4 ≤ n) (hB : Bytes8 l) (hg : g < w.heap.size) (hc : ∀ j, j < 4 → w.cell? ⟨g, off + j, none⟩ = some (.int .u8 (at8 l j))) :
    Calls Try.prog 26 #[.slice (some ⟨g, off, none⟩) n cap, .int .i64 1] w (ItemPost 1 (W l) 4 w) := by
  have HC := Lib.hid hc
  have HL := Lib.hid hl
  clear hc hl
  go_enter Try.func26, Try.ntmps26
  go_wp2
  go_loopw [6] (fun k wr => ∃ j : Nat, j ≤ 4 ∧ k = .int .i64 ((j : Int) - 1) ∧ Hid (Fix w (W (l.drop j)) 1 wr)) (fun k _ => (intOf k + 1).toNat)
  case atStart =>
    refine ⟨4, Nat.le_refl _, rfl, ?_⟩
    rw [List.drop_eq_nil_of_le (by have := HL.out; omega)]
    exact ⟨by simp, by simp [W], by simp, by simp, by simp, by simp, (Below.refl _ _).alloc (Nat.le_refl _) _⟩
  case round =>
    obtain ⟨j, hj, rfl, HF⟩ := hrel
    by_cases h0 : 0 < j
    · obtain ⟨i, rfl⟩ : ∃ i, j = i + 1 := ⟨j - 1, by omega⟩
      obtain ⟨q0, q1, q2, f0, f1, f2, hb⟩ := HF.out
      have hcell := pw_cell_below hb (HC.out i (by omega))
      have bd := at8_bd hB i
      have wb := W_bd (l := l.drop (i + 1)) (fun x hx => hB x (List.mem_of_mem_drop hx)) 3 (by rw [List.length_drop]; have := HL.out; omega)
      rw [show (256 : Int) ^ 3 = 16777216 from by decide] at wb
      have HE : Hid (∀ x, W (l.drop (i + 1)) = x → W (l.drop i) = at8 l i + 256 * x) := by
        intro x hx; rw [← hx]; exact W_drop (by have := HL.out; omega)
      generalize hW : W (l.drop (i + 1)) = x at *
      have HX := Lib.hid (or_low x (at8 l i) wb.1 (by omega) bd.1 bd.2)
      have HD := Lib.hid (HE.out x rfl)
      have HB := Lib.hid hb
      clear hW hb HE
      rw [show ((i + 1 : Nat) : Int) - 1 = (i : Int) from by omega]
      go_wp2
      go_region
      all_goals
        go_wp2
      refine ⟨⟨i, by omega, rfl, ?_⟩, by simp [intOf]⟩
      rw [HD.out]
      exact Fix.set HF.out HX.out
    · obtain rfl : j = 0 := by omega
      obtain ⟨q0, q1, q2, f0, f1, f2, hb⟩ := HF.out
      have HB := Lib.hid hb
      clear hb
      rw [List.drop_zero] at q1
      go_wp2
      refine bodyPost_ret (v := .tuple #[.agg #[.int .i64 1, .int .u64 (W l), .slice none 0 0], .int .i64 4]) ?_ rfl ?_
      · simp [results, Try.results26, go_sem, q0, q1, q2]
      · refine ⟨rfl, ?_⟩
        exact ((HB.out.setCell (Nat.le_refl _) _).setCell (Nat.le_refl _) _).setCell (Nat.le_refl _) _

set_option maxRecDepth 100000 in
theorem spec_1_none (w : World) (a : Option Addr) (cap : Nat) (n : Nat) (hn : n < 4) :
    Calls Try.prog 26 #[.slice a n cap, .int .i64 1] w (ItemPost 1 0 0 w) := by
  go_enter Try.func26, Try.ntmps26
  go_wp2
  go_returns
  exact ⟨rfl, by go_grown⟩

set_option maxHeartbeats 1000000 in
set_option maxRecDepth 100000 in
theorem spec_2 (w : World) (g off : Nat) (cap : Nat) (n : Nat) (hn : n ≤ 100000) (hcap : n ≤ cap) (l : List Int) (hl : l.length = 8) (h4 : 8 ≤ n) (hB : Bytes8 l) (hg : g < w.heap.size) (hc : ∀ j, j < 8 → w.cell? ⟨g, off + j, none⟩ = some (.int .u8 (at8 l j))) :
    Calls Try.prog 26 #[.slice (some ⟨g, off, none⟩) n cap, .int .i64 2] w (ItemPost 2 (W l) 8 w) := by
  have HC := Lib.hid hc
  have HL := Lib.hid hl
  clear hc hl
  go_enter Try.func26, Try.ntmps26
  go_wp2
  go_loopw [6] (fun k wr => ∃ j : Nat, j ≤ 8 ∧ k = .int .i64 ((j : Int) - 1) ∧ Hid (Fix w (W (l.drop j)) 2 wr)) (fun k _ => (intOf k + 1).toNat)
  case atStart =>
    refine ⟨8, Nat.le_refl _, rfl, ?_⟩
    rw [List.drop_eq_nil_of_le (by have := HL.out; omega)]
    exact ⟨by simp, by simp [W], by simp, by simp, by simp, by simp, (Below.refl _ _).alloc (Nat.le_refl _) _⟩
  case round =>
    obtain ⟨j, hj, rfl, HF⟩ := hrel
    by_cases h0 : 0 < j
    · obtain ⟨i, rfl⟩ : ∃ i, j = i + 1 := ⟨j - 1, by omega⟩
      obtain ⟨q0, q1, q2, f0, f1, f2, hb⟩ := HF.out
      have hcell := pw_cell_below hb (HC.out i (by omega))
      have bd := at8_bd hB i
      have wb := W_bd (l := l.drop (i + 1)) (fun x hx => hB x (List.mem_of_mem_drop hx)) 7 (by rw [List.length_drop]; have := HL.out; omega)
      rw [show (256 : Int) ^ 7 = 72057594037927936 from by decide] at wb
      have HE : Hid (∀ x, W (l.drop (i + 1)) = x → W (l.drop i) = at8 l i + 256 * x) := by
        intro x hx; rw [← hx]; exact W_drop (by have := HL.out; omega)
      generalize hW : W (l.drop (i + 1)) = x at *
      have HX := Lib.hid (or_low x (at8 l i) wb.1 (by omega) bd.1 bd.2)
      have HD := Lib.hid (HE.out x rfl)
      have HB := Lib.hid hb
      clear hW hb HE
      rw [show ((i + 1 : Nat) : Int) - 1 = (i : Int) from by omega]
      go_wp2
      go_region
      all_goals
        go_wp2
      refine ⟨⟨i, by omega, rfl, ?_⟩, by simp [intOf]⟩
      rw [HD.out]
      exact Fix.set HF.out HX.out
    · obtain rfl : j = 0 := by omega
      obtain ⟨q0, q1, q2, f0, f1, f2, hb⟩ := HF.out
      have HB := Lib.hid hb
      clear hb
      rw [List.drop_zero] at q1
      go_wp2
      refine bodyPost_ret (v := .tuple #[.agg #[.int .i64 2, .int .u64 (W l), .slice none 0 0], .int .i64 8]) ?_ rfl ?_
      · simp [results, Try.results26, go_sem, q0, q1, q2]
      · refine ⟨rfl, ?_⟩
        exact ((HB.out.setCell (Nat.le_refl _) _).setCell (Nat.le_refl _) _).setCell (Nat.le_refl _) _

set_option maxRecDepth 100000 in
theorem spec_2_none (w : World) (a : Option Addr) (cap : Nat) (n : Nat) (hn : n < 8) :
    Calls Try.prog 26 #[.slice a n cap, .int .i64 2] w (ItemPost 2 0 0 w) := by
  go_enter Try.func26, Try.ntmps26
  go_wp2
  go_returns
  exact ⟨rfl, by go_grown⟩

end Go.Proofs.Ytobponaenabpgaa.Rd
