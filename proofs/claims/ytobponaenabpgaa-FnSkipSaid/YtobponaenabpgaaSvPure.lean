/- Numbers by sevens as lists of whole numbers: no program in sight. -/
import Derived.Laws.BitsAllLaws
import Derived.IntWalk
namespace Go.Proofs.Ytobponaenabpgaa.Sv
open Go

/-- The number at a place. -/
def at8 (l : List Int) (j : Nat) : Int := l.getD j 0
def Bytes8 (l : List Int) : Prop := ∀ x ∈ l, 0 ≤ x ∧ x < 256

theorem at8_bd {l : List Int} (h : Bytes8 l) (j : Nat) : 0 ≤ at8 l j ∧ at8 l j < 256 := by
  unfold at8
  by_cases hj : j < l.length
  · rw [List.getD_eq_getElem?_getD, List.getElem?_eq_getElem hj]
    exact h _ (List.getElem_mem hj)
  · rw [List.getD_eq_getElem?_getD, List.getElem?_eq_none (by omega)]
    exact ⟨by decide, by decide⟩

/-- What sevens of bits say, the lowest ones first. -/
def V : List Int → Int
  | [] => 0
  | c :: r => c % 128 + 128 * V r

theorem pow7 (k : Nat) : (2 : Int) ^ (7 * (k + 1)) = 128 * 2 ^ (7 * k) := by
  rw [Nat.mul_add, Int.pow_add, Int.mul_comm]; rfl

theorem V_snoc (l : List Int) (c : Int) : V (l ++ [c]) = V l + c % 128 * 2 ^ (7 * l.length) := by
  induction l with
  | nil => simp [V]
  | cons d r ih =>
    simp only [List.cons_append, V, ih, List.length_cons, pow7]
    rw [Int.mul_add, ← Int.add_assoc, Int.mul_left_comm]

theorem V_bd (l : List Int) : 0 ≤ V l ∧ V l < 2 ^ (7 * l.length) := by
  induction l with
  | nil => simp [V]
  | cons d r ih =>
    simp only [V, List.length_cons, pow7]
    omega

theorem take_succ {l : List Int} {k : Nat} (h : k < l.length) : l.take (k + 1) = l.take k ++ [at8 l k] := by
  rw [List.take_succ_eq_append_getElem h]
  simp [at8, List.getD_eq_getElem?_getD, List.getElem?_eq_getElem h]

theorem V_take_bd (l : List Int) (k : Nat) : 0 ≤ V (l.take k) ∧ V (l.take k) < 2 ^ (7 * k) := by
  have h := V_bd (l.take k)
  have hl : (l.take k).length ≤ k := by rw [List.length_take]; omega
  have : (2 : Int) ^ (7 * (l.take k).length) ≤ 2 ^ (7 * k) := by
    have := Nat.pow_le_pow_right (n := 2) (by omega) (show 7 * (l.take k).length ≤ 7 * k by omega)
    exact_mod_cast this
  omega

theorem or_add (k : Nat) (y m : Int) (hk : k ≤ 9) (h0 : 0 ≤ y) (h1 : y < 2 ^ (7 * k)) (m0 : 0 ≤ m) (m1 : m < 128) (m9 : k = 9 → m ≤ 1) :
    bits .or .u64 y (IntKind.u64.wrap (m * 2 ^ (7 * k))) = y + m * 2 ^ (7 * k) := by
  obtain ⟨y, rfl⟩ := Int.eq_ofNat_of_zero_le h0
  obtain ⟨m, rfl⟩ := Int.eq_ofNat_of_zero_le m0
  have e : (m : Int) * 2 ^ (7 * k) = ((m * 2 ^ (7 * k) : Nat) : Int) := by push_cast; rfl
  have hy : y < 2 ^ (7 * k) := by exact_mod_cast h1
  have hp : 2 ^ (7 * k) ≤ 2 ^ 63 := Nat.pow_le_pow_right (by omega) (by omega)
  have hp63 : (2 : Nat) ^ 63 = 9223372036854775808 := by decide
  have hb : m * 2 ^ (7 * k) ≤ 9223372036854775808 := by
    by_cases h9 : k = 9
    · subst h9
      have := m9 rfl
      have : m ≤ 1 := by omega
      calc m * 2 ^ (7 * 9) ≤ 1 * 2 ^ (7 * 9) := Nat.mul_le_mul_right _ this
        _ = 9223372036854775808 := by decide
    · have h8 : 2 ^ (7 * k) ≤ 2 ^ 56 := Nat.pow_le_pow_right (by omega) (by omega)
      have hm : m ≤ 127 := by omega
      calc m * 2 ^ (7 * k) ≤ 127 * 2 ^ 56 := Nat.mul_le_mul hm h8
        _ ≤ 9223372036854775808 := by decide
  rw [e, IntWalk.u64_in _ (by omega), u64_or_nat _ _ (by omega) (by omega)]
  have := Nat.shiftLeft_add_eq_or_of_lt hy m
  rw [Nat.shiftLeft_eq] at this
  rw [Nat.or_comm, ← this]
  push_cast
  omega

theorem step_eq {l : List Int} (hB : Bytes8 l) {k : Nat} (hk : k < l.length) (h9 : k < 9 ∨ k = 9 ∧ at8 l k ≤ 1) :
    bits .or .u64 (V (l.take k)) (IntKind.u64.wrap (at8 l k % 128 * 2 ^ (7 * k))) = V (l.take (k + 1)) := by
  have b := V_take_bd l k
  have hc := at8_bd hB k
  rw [or_add k _ _ (by omega) b.1 b.2 (by omega) (by omega) (by omega), take_succ hk, V_snoc, List.length_take, Nat.min_eq_left (by omega)]

theorem V10_bd {l : List Int} (hB : Bytes8 l) {k : Nat} (hk : k < l.length) (h9 : k < 9 ∨ k = 9 ∧ at8 l k ≤ 1) : 0 ≤ V (l.take (k + 1)) ∧ V (l.take (k + 1)) < 18446744073709551616 := by
  have b := V_take_bd l k
  have hc := at8_bd hB k
  rw [take_succ hk, V_snoc, List.length_take, Nat.min_eq_left (by omega)]
  rcases h9 with h9 | ⟨rfl, h1⟩
  · have hp : (2 : Int) ^ (7 * k) ≤ 2 ^ 56 := by
      have := Nat.pow_le_pow_right (n := 2) (by omega) (show 7 * k ≤ 56 by omega)
      exact_mod_cast this
    have e56 : (2 : Int) ^ 56 = 72057594037927936 := by decide
    have hpos : (0 : Int) < 2 ^ (7 * k) := by exact_mod_cast Nat.pow_pos (n := 7 * k) (show 0 < 2 by omega)
    have hm : at8 l k % 128 ≤ 127 := by omega
    have : at8 l k % 128 * 2 ^ (7 * k) ≤ 127 * 2 ^ (7 * k) := Int.mul_le_mul_of_nonneg_right hm (by omega)
    have : 0 ≤ at8 l k % 128 * 2 ^ (7 * k) := Int.mul_nonneg (by omega) (by omega)
    omega
  · have e63 : (2 : Int) ^ (7 * 9) = 9223372036854775808 := by decide
    rw [e63] at b ⊢
    omega

theorem and127 (c : Int) (h0 : 0 ≤ c) (h1 : c < 256) : bits .and .u64 c 127 = c % 128 := by
  rw [u64_and c _ h0 (by omega) (by omega) (by omega), show (127 : Int).toNat = 2 ^ 7 - 1 from by decide, Nat.and_two_pow_sub_one_eq_mod]
  omega
theorem nat_and128 : ∀ c : Nat, c < 256 → c &&& 128 = if c < 128 then 0 else 128 := by decide +kernel
theorem and128_lo (c : Int) (h0 : 0 ≤ c) (h1 : c < 128) : bits .and .u64 c 128 = 0 := by
  rw [u64_and c _ h0 (by omega) (by omega) (by omega), show (128 : Int).toNat = 128 from rfl, nat_and128 _ (by omega), if_pos (by omega)]
  rfl
theorem and128_hi (c : Int) (h0 : 128 ≤ c) (h1 : c < 256) : bits .and .u64 c 128 = 128 := by
  rw [u64_and c _ (by omega) (by omega) (by omega) (by omega), show (128 : Int).toNat = 128 from rfl, nat_and128 _ (by omega), if_neg (by omega)]
  rfl

/-- A number of k + 1 bytes stands at the head. -/
def Good (l : List Int) (k : Nat) : Prop := k < l.length ∧ (∀ j, j < k → 128 ≤ at8 l j) ∧ at8 l k < 128 ∧ (k < 9 ∨ k = 9 ∧ at8 l k ≤ 1)
/-- It is broken off. -/
def Short (l : List Int) : Prop := l.length ≤ 9 ∧ ∀ j, j < l.length → 128 ≤ at8 l j
/-- It has more than 64 bits. -/
def Over (l : List Int) : Prop := 9 < l.length ∧ (∀ j, j < 9 → 128 ≤ at8 l j) ∧ 1 < at8 l 9

theorem classes (l : List Int) : (∃ k, Good l k) ∨ Short l ∨ Over l := by
  have key : ∀ k, k ≤ 9 → k ≤ l.length → (∀ j, j < k → 128 ≤ at8 l j) ∨ ∃ k, Good l k := by
    intro k
    induction k with
    | zero => intro _ _; exact .inl fun j hj => by omega
    | succ k ih =>
      intro h9 hl
      rcases ih (by omega) (by omega) with h | h
      · by_cases hc : at8 l k < 128
        · exact .inr ⟨k, by omega, h, hc, .inl (by omega)⟩
        · refine .inl fun j hj => ?_
          by_cases e : j = k
          · subst e; omega
          · exact h j (by omega)
      · exact .inr h
  by_cases h9 : l.length ≤ 9
  · rcases key l.length h9 (Nat.le_refl _) with h | h
    · exact .inr (.inl ⟨h9, h⟩)
    · exact .inl h
  · rcases key 9 (Nat.le_refl _) (by omega) with h | h
    · by_cases h1 : at8 l 9 ≤ 1
      · exact .inl ⟨9, by omega, h, by omega, .inr ⟨rfl, h1⟩⟩
      · exact .inr (.inr ⟨by omega, h, by omega⟩)
    · exact .inl h

/-- A number by sevens. -/
def sev (n : Nat) : List Int := if n < 128 then [(n : Int)] else ((n % 128 + 128 : Nat) : Int) :: sev (n / 128)
termination_by n
decreasing_by omega

theorem sev_lo {n : Nat} (h : n < 128) : sev n = [(n : Int)] := by rw [sev, if_pos h]
theorem sev_hi {n : Nat} (h : 128 ≤ n) : sev n = ((n % 128 + 128 : Nat) : Int) :: sev (n / 128) := by rw [sev, if_neg (by omega)]

theorem sev_pos (n : Nat) : 0 < (sev n).length := by
  rw [sev]; split <;> simp

/-- How long a number by sevens is. -/
theorem sev_len : ∀ (d n : Nat), n < 2 ^ (7 * (d + 1)) → (sev n).length ≤ d + 1 := by
  intro d
  induction d with
  | zero =>
    intro n h
    rw [sev_lo (by simpa using h)]
    simp
  | succ d ih =>
    intro n h
    by_cases h1 : n < 128
    · rw [sev_lo h1]; simp
    · rw [sev_hi (by omega), List.length_cons]
      have := ih (n / 128) (by
        rw [Nat.div_lt_iff_lt_mul (by omega)]
        have : 2 ^ (7 * (d + 1)) * 128 = 2 ^ (7 * (d + 1 + 1)) := by
          rw [show 7 * (d + 1 + 1) = 7 * (d + 1) + 7 by omega, Nat.pow_add]
        omega)
      omega
theorem sev_len_ge : ∀ (d n : Nat), 2 ^ (7 * d) ≤ n → d + 1 ≤ (sev n).length := by
  intro d
  induction d with
  | zero => intro n _; have := sev_pos n; omega
  | succ d ih =>
    intro n h
    have e : 2 ^ (7 * (d + 1)) = 2 ^ (7 * d) * 128 := by rw [show 7 * (d + 1) = 7 * d + 7 by omega, Nat.pow_add]
    have hp : 0 < 2 ^ (7 * d) := Nat.pow_pos (by omega)
    rw [sev_hi (by omega), List.length_cons]
    have := ih (n / 128) (by rw [Nat.le_div_iff_mul_le (by omega)]; omega)
    omega
theorem sev_len10 {n : Nat} (h : n < 18446744073709551616) : (sev n).length ≤ 10 := by
  have : (18446744073709551616 : Nat) ≤ 2 ^ 70 := by decide
  exact sev_len 9 n (by omega)
theorem sev_bytes (n : Nat) : Bytes8 (sev n) := by
  induction n using Nat.strongRecOn with
  | _ n ih =>
    by_cases h : n < 128
    · rw [sev_lo h]; intro x hx; simp at hx; omega
    · rw [sev_hi (by omega)]
      intro x hx
      rcases List.mem_cons.1 hx with rfl | hx
      · omega
      · exact ih _ (by omega) x hx

end Go.Proofs.Ytobponaenabpgaa.Sv
