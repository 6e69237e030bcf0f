/- Reading a number by sevens as the package's buffer does: no program in sight. -/
import Derived.Test.YtobponaenabpgaaSvPure
namespace Go.Proofs.Ytobponaenabpgaa.Sv
open Go

/-- How many bytes with their highest bit stand at the head. -/
def lead : List Int → Nat
  | [] => 0
  | c :: r => if 128 ≤ c then lead r + 1 else 0

theorem lead_le (l : List Int) : lead l ≤ l.length := by
  induction l with
  | nil => simp [lead]
  | cons c r ih => unfold lead; split <;> simp <;> omega
theorem lead_hi (l : List Int) : ∀ j, j < lead l → 128 ≤ at8 l j := by
  induction l with
  | nil => intro j hj; simp [lead] at hj
  | cons c r ih =>
    intro j hj
    unfold lead at hj
    split at hj
    · cases j with
      | zero => simpa [at8]
      | succ j => have := ih j (by omega); simpa [at8] using this
    · omega
theorem lead_lo (l : List Int) (h : lead l < l.length) : at8 l (lead l) < 128 := by
  induction l with
  | nil => simp at h
  | cons c r ih =>
    unfold lead at h ⊢
    split
    · rename_i hc
      rw [if_pos hc] at h
      have := ih (by simpa using h)
      simpa [at8] using this
    · simp [at8]; omega
theorem lead_eq {l : List Int} {k : Nat} (h1 : k < l.length) (h2 : ∀ j, j < k → 128 ≤ at8 l j) (h3 : at8 l k < 128) : lead l = k := by
  rcases Nat.lt_trichotomy (lead l) k with h | h | h
  · have := h2 _ h
    have := lead_lo l (by omega)
    omega
  · exact h
  · have := lead_hi l k h
    omega

/-- What the package's buffer reads: the number and how many bytes it has, or nothing. -/
def dv (r : List Int) : Option (Int × Nat) := if lead r < r.length ∧ lead r ≤ 9 then some (V (r.take (lead r + 1)) % 18446744073709551616, lead r + 1) else none

theorem dv_good {r : List Int} (hB : Bytes8 r) {k : Nat} (h : Good r k) : dv r = some (V (r.take (k + 1)), k + 1) := by
  obtain ⟨h1, h2, h3, h4⟩ := h
  have e := lead_eq h1 h2 h3
  have b := V10_bd hB h1 h4
  unfold dv
  rw [e, if_pos ⟨h1, by omega⟩, Int.emod_eq_of_lt b.1 b.2]
theorem dv_short {r : List Int} (h : Short r) : dv r = none := by
  unfold dv
  rw [if_neg]
  intro h'
  have := lead_lo r h'.1
  have := h.2 _ h'.1
  omega

theorem drop_at (b : List Int) (i j : Nat) : at8 (b.drop i) j = at8 b (i + j) := by simp [at8, List.getD_eq_getElem?_getD]
theorem bytes_drop {b : List Int} (h : Bytes8 b) (i : Nat) : Bytes8 (b.drop i) := fun x hx => h x (List.mem_of_mem_drop hx)
theorem bytes_take {b : List Int} (h : Bytes8 b) (i : Nat) : Bytes8 (b.take i) := fun x hx => h x (List.mem_of_mem_take hx)

/-- The first numbers of a list, one by one. -/
theorem V_take_succ {l : List Int} {k : Nat} (hk : k < l.length) : V (l.take (k + 1)) = V (l.take k) + at8 l k % 128 * 2 ^ (7 * k) := by
  rw [take_succ hk, V_snoc, List.length_take, Nat.min_eq_left (by omega)]

theorem or_add9 (y c : Int) (h0 : 0 ≤ y) (h1 : y < 2 ^ (7 * 9)) :
    bits .or .u64 y (IntKind.u64.wrap (c * 2 ^ (7 * 9))) = (y + c * 2 ^ (7 * 9)) % 18446744073709551616 := by
  have e63 : (2 : Int) ^ (7 * 9) = 9223372036854775808 := by decide
  have hw : IntKind.u64.wrap (c * 2 ^ (7 * 9)) = IntKind.u64.wrap (c % 2 * 2 ^ (7 * 9)) := by
    rw [e63, IntKind.wrap_u64, IntKind.wrap_u64]; omega
  rw [hw, or_add 9 y (c % 2) (by omega) h0 h1 (by omega) (by omega) (by omega), e63]
  rw [e63] at h1
  omega
end Go.Proofs.Ytobponaenabpgaa.Sv
