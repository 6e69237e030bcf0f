/- Contracts of the reference's Read: bytes and texts behind their number. -/
import Derived.Test.YtobponaenabpgaaRsFix
import Derived.Test.YtobponaenabpgaaRdImpl
namespace Go.Proofs.Ytobponaenabpgaa.Rd
open Go.ChangeShapes Go.WideShapes Go.ChangeAt Go.RowKit Sv Go.Proofs.YtobponaenabpgaaW Go.Proofs.YtobponaenabpgaaW.PrintWords
set_option linter.unusedVariables false

set_option maxRecDepth 100000 in
theorem spec_raw_bad (k : Nat) (hk : k = 5 ∨ k = 6) (w : World) (a : Option Addr) (cap n : Nat) (z m : Int) (hm : m ≤ 0) (Hr : ∀ W, Below w.heap.size w W → Calls Try.prog 11 #[.slice a n cap] W fun e w' => e = .returned (.tuple #[.int .u64 z, .int .i64 m]) ∧ W = w') :
    Calls Try.prog 26 #[.slice a n cap, .int .i64 k] w (ItemPost k 0 m w) := by
  have H := Lib.hid Hr
  clear Hr
  rcases hk with rfl | rfl
  all_goals
    go_enter Try.func26, Try.ntmps26
    go_wp2_with fail
    refine (H.out _ (by go_grown)).mono ?_
    rintro e w1 ⟨rfl, rfl⟩
    go_wp2
    go_returns
    exact ⟨rfl, by go_grown⟩

set_option maxRecDepth 100000 in
theorem spec_raw_far (k : Nat) (hk : k = 5 ∨ k = 6) (w : World) (a : Option Addr) (cap n m : Nat) (z : Int) (hn : n ≤ 100000) (hm0 : 0 < m) (hm : m ≤ n) (hz : (n : Int) - m < z) (Hr : ∀ W, Below w.heap.size w W → Calls Try.prog 11 #[.slice a n cap] W fun e w' => e = .returned (.tuple #[.int .u64 z, .int .i64 m]) ∧ W = w') :
    Calls Try.prog 26 #[.slice a n cap, .int .i64 k] w (ItemPost k 0 0 w) := by
  have H := Lib.hid Hr
  clear Hr
  rcases hk with rfl | rfl
  all_goals
    go_enter Try.func26, Try.ntmps26
    go_wp2_with fail
    refine (H.out _ (by go_grown)).mono ?_
    rintro e w1 ⟨rfl, rfl⟩
    go_wp2
    go_returns
    exact ⟨rfl, by go_grown⟩

/-- Bytes behind their number. -/
def PartIs (k : Nat) (g off m x : Nat) (w : World) (e : Ending) (w' : World) : Prop :=
  ∃ a c, (0 < x → a = some ⟨g, off + m, none⟩) ∧ e = .returned (.tuple #[.agg #[.int .i64 k, .int .u64 0, .slice a x c], .int .i64 ((m : Int) + x)]) ∧ Below w.heap.size w w'

set_option maxRecDepth 100000 in
theorem spec_raw (k : Nat) (hk : k = 5 ∨ k = 6) (w : World) (g off cap n m x : Nat) (hn : n ≤ 100000) (hcap : n ≤ cap) (hm0 : 0 < m) (hx : m + x ≤ n) (Hr : ∀ W, Below w.heap.size w W → Calls Try.prog 11 #[.slice (some ⟨g, off, none⟩) n cap] W fun e w' => e = .returned (.tuple #[.int .u64 x, .int .i64 m]) ∧ W = w') :
    Calls Try.prog 26 #[.slice (some ⟨g, off, none⟩) n cap, .int .i64 k] w (PartIs k g off m x w) := by
  have H := Lib.hid Hr
  clear Hr
  rcases hk with rfl | rfl
  all_goals
    go_enter Try.func26, Try.ntmps26
    go_wp2_with fail
    refine (H.out _ (by go_grown)).mono ?_
    rintro e w1 ⟨rfl, rfl⟩
    go_wp2
    all_goals
      go_returns
      first
        | exact ⟨_, _, fun _ => rfl, rfl, by go_grown⟩
        | exact ⟨_, _, fun h => by omega, rfl, by go_grown⟩

/-- How the reference reads: the class of the bytes decides. -/
def NumOver (k : Nat) (b : List Int) : Prop := k ≠ 1 ∧ k ≠ 2 ∧ Over b

/-- What the reference's Read answers. -/
def SpecIs (k : Nat) (b : List Int) (w : World) (e : Ending) (w' : World) : Prop :=
  ∃ (N n : Int) (a : Option Addr) (l : List Int) (c : Nat), e = .returned (.tuple #[.agg #[.int .i64 k, .int .u64 N, .slice a l.length c], .int .i64 n]) ∧ Sl8 w' a l ∧ Below w.heap.size w w' ∧
    (n < 0 ∨ (n = 0 ∧ one k b = none) ∨ ∃ m : Nat, 0 < m ∧ n = m ∧ one k b = some (⟨k, N, l⟩, m))

theorem sl8_nil (w : World) : Sl8 w none [] := ⟨fun x hx => by simp at hx, fun h => by simp at h⟩

theorem sl8_holds {w : World} {a : Option Addr} {l : List Int} (h : Sl8 w a l) (hs : l.length ≤ 100000) : Holds8 w a l :=
  ⟨h.1, by omega, fun hn => by
    obtain ⟨g, off, e, hc⟩ := h.2 hn
    exact ⟨_, e, fun j hj => by rw [WideShapes.add_plain]; exact hc j hj⟩⟩

theorem item_spec {k : Nat} {N n : Int} {b : List Int} {w : World} (h : n < 0 ∨ (n = 0 ∧ one k b = none) ∨ ∃ m : Nat, 0 < m ∧ n = m ∧ one k b = some (⟨k, N, []⟩, m)) : ∀ e w', ItemPost k N n w e w' → SpecIs k b w e w' := by
  rintro e w' ⟨rfl, hb⟩
  exact ⟨N, n, none, [], 0, rfl, sl8_nil _, hb, h⟩

theorem num_class (k : Nat) (hk : k = 0 ∨ k = 3 ∨ k = 4) (f : Int → Int) (hf : ∀ r, num k r = (dv r).map fun p => (f p.1, p.2)) {b : List Int} (hB : Bytes8 b) :
    ∃ z m : Int, 0 ≤ z ∧ z ≤ 18446744073709551615 ∧ (∀ W a cap, Holds8 W a b → Calls Try.prog 11 #[.slice a b.length cap] W fun e w' => e = .returned (.tuple #[.int .u64 z, .int .i64 m]) ∧ W = w') ∧
      (m < 0 ∨ (m = 0 ∧ one k b = none) ∨ ∃ j : Nat, 0 < j ∧ m = j ∧ one k b = some (⟨k, f z, []⟩, j)) := by
  have hk4 : k ≤ 4 := by omega
  rcases classes b with ⟨j, hg⟩ | hs | ho
  · have hv := V10_bd hB hg.1 hg.2.2.2
    refine ⟨V (b.take (j + 1)), (j : Int) + 1, hv.1, by omega, fun W a cap h => read_good a cap b W h j hg, .inr (.inr ⟨j + 1, by omega, by omega, ?_⟩)⟩
    rw [one_num hk4, hf, dv_good hB hg]
    rfl
  · refine ⟨0, 0, by omega, by omega, fun W a cap h => read_short a cap b W h hs, .inr (.inl ⟨rfl, ?_⟩)⟩
    rw [one_num hk4, hf, dv_short hs]
    rfl
  · exact ⟨0, -1, by omega, by omega, fun W a cap h => read_over a cap b W h ho, .inl (by decide)⟩

theorem spec_any (w : World) (a : Option Addr) (cap : Nat) (b : List Int) (hs : b.length ≤ 100000) (hcap : b.length ≤ cap) (hb : Sl8 w a b) (k : Nat) (hk : k ≤ 6) :
    Calls Try.prog 26 #[.slice a b.length cap, .int .i64 k] w (SpecIs k b w) := by
  have hold := sl8_holds hb hs
  match k, hk with
  | 0, _ =>
    obtain ⟨z, m, h0, h1, hr, hc⟩ := num_class 0 (.inl rfl) (fun x => x) (fun r => by cases h : dv r <;> simp [num, h]) hb.1
    exact (spec_0 w a cap b.length z m fun W hW => hr W a cap (holds_below hold hW)).mono (item_spec hc)
  | 3, _ =>
    obtain ⟨z, m, h0, h1, hr, hc⟩ := num_class 3 (.inr (.inl rfl)) zz32 (fun r => rfl) hb.1
    exact (spec_3 w a cap b.length z m h0 h1 fun W hW => hr W a cap (holds_below hold hW)).mono (item_spec hc)
  | 4, _ =>
    obtain ⟨z, m, h0, h1, hr, hc⟩ := num_class 4 (.inr (.inr rfl)) zz64 (fun r => rfl) hb.1
    exact (spec_4 w a cap b.length z m h0 h1 fun W hW => hr W a cap (holds_below hold hW)).mono (item_spec hc)
  | 1, _ =>
    by_cases h4 : 4 ≤ b.length
    · obtain ⟨g, off, rfl, hc⟩ := hb.2 (by omega)
      have hl : (b.take 4).length = 4 := by rw [List.length_take]; omega
      have hg : g < w.heap.size := World.block_lt_of_cell? w _ (hc 0 (by omega))
      refine (spec_1 w g off cap b.length hs hcap (b.take 4) hl h4 (bytes_take hb.1 4) hg fun j hj => ?_).mono (item_spec (.inr (.inr ⟨4, by omega, rfl, ?_⟩)))
      · rw [hc j (by omega)]; simp [at8, List.getD_eq_getElem?_getD, hj]
      · rw [one_num (by decide)]; simp [num, f4, h4]
    · refine (spec_1_none w a cap b.length (by omega)).mono (item_spec (.inr (.inl ⟨rfl, ?_⟩)))
      rw [one_num (by decide)]; simp [num, f4, h4]
  | 2, _ =>
    by_cases h8 : 8 ≤ b.length
    · obtain ⟨g, off, rfl, hc⟩ := hb.2 (by omega)
      have hl : (b.take 8).length = 8 := by rw [List.length_take]; omega
      have hg : g < w.heap.size := World.block_lt_of_cell? w _ (hc 0 (by omega))
      refine (spec_2 w g off cap b.length hs hcap (b.take 8) hl h8 (bytes_take hb.1 8) hg fun j hj => ?_).mono (item_spec (.inr (.inr ⟨8, by omega, rfl, ?_⟩)))
      · rw [hc j (by omega)]; simp [at8, List.getD_eq_getElem?_getD, hj]
      · rw [one_num (by decide)]; simp [num, f8, h8]
    · refine (spec_2_none w a cap b.length (by omega)).mono (item_spec (.inr (.inl ⟨rfl, ?_⟩)))
      rw [one_num (by decide)]; simp [num, f8, h8]
  | k + 5, hk =>
    have hk5 : k + 5 = 5 ∨ k + 5 = 6 := by omega
    have hnot : ¬ k + 5 ≤ 4 := by omega
    rcases classes b with ⟨j, hg⟩ | hsh | ho
    · have hv := V10_bd hb.1 hg.1 hg.2.2.2
      have hj := hg.1
      have hrd : ∀ W, Below w.heap.size w W → Calls Try.prog 11 #[.slice a b.length cap] W fun e w' => e = .returned (.tuple #[.int .u64 (V (b.take (j + 1))), .int .i64 ((j : Int) + 1)]) ∧ W = w' := fun W hW => read_good a cap b W (holds_below hold hW) j hg
      have hdv := dv_good hb.1 hg
      generalize V (b.take (j + 1)) = z at *
      obtain ⟨x, rfl⟩ := Int.eq_ofNat_of_zero_le hv.1
      by_cases hx : j + 1 + x ≤ b.length
      · obtain ⟨g, off, rfl, hc⟩ := hb.2 (by omega)
        refine (spec_raw (k + 5) hk5 w g off cap b.length (j + 1) x hs hcap (by omega) hx hrd).mono ?_
        rintro e w1 ⟨a, c, ha, rfl, hbl⟩
        have hl : ((b.drop (j + 1)).take x).length = x := by rw [List.length_take, List.length_drop]; omega
        refine ⟨0, ((j + 1 : Nat) : Int) + x, a, (b.drop (j + 1)).take x, c, by rw [hl], ⟨bytes_take (bytes_drop hb.1 _) _, fun h0 => ?_⟩, hbl, .inr (.inr ⟨j + 1 + x, by omega, by omega, ?_⟩)⟩
        · rw [hl] at h0
          refine ⟨g, off + (j + 1), ha h0, fun i hi => ?_⟩
          rw [hl] at hi
          have := pw_cell_below hbl (hc (j + 1 + i) (by omega))
          rw [show off + (j + 1) + i = off + (j + 1 + i) from by omega, this]
          simp [at8, List.getD_eq_getElem?_getD, hi]
        · rw [one_raw hnot]
          unfold rb
          rw [hdv]
          simp only
          rw [if_pos (by omega)]
          rfl
      · refine (spec_raw_far (k + 5) hk5 w a cap b.length (j + 1) x hs (by omega) (by omega) (by omega) hrd).mono (item_spec (.inr (.inl ⟨rfl, ?_⟩)))
        rw [one_raw hnot]
        unfold rb
        rw [hdv]
        simp only
        rw [if_neg (by omega)]
        rfl
    · refine (spec_raw_bad (k + 5) hk5 w a cap b.length 0 0 (by omega) fun W hW => read_short a cap b W (holds_below hold hW) hsh).mono (item_spec (.inr (.inl ⟨rfl, ?_⟩)))
      rw [one_raw hnot]
      unfold rb
      rw [dv_short hsh]
      rfl
    · exact (spec_raw_bad (k + 5) hk5 w a cap b.length 0 (-1) (by omega) fun W hW => read_over a cap b W (holds_below hold hW) ho).mono (item_spec (.inl (by decide)))

end Go.Proofs.Ytobponaenabpgaa.Rd
