/- What is written is read again: no program in sight. -/
import Derived.Test.YtobponaenabpgaaWrAny
import Derived.Test.YtobponaenabpgaaWrWhole
namespace Go.Proofs.Ytobponaenabpgaa.Rd
open Go.ChangeShapes Go.WideShapes Go.ChangeAt Go.RowKit Sv Go.Proofs.YtobponaenabpgaaW Go.Proofs.YtobponaenabpgaaW.PrintWords
set_option linter.unusedVariables false

/-- The bytes of values, laid end to end. -/
def encs' : List It → List Int
  | [] => []
  | it :: r => encIt it.kind it.n it.bytes ++ encs' r

theorem zz64_fo64 {n : Int} (h0 : 0 ≤ n) (h1 : n ≤ 18446744073709551615) : zz64 (fo64 n) = n := by
  unfold zz64 fo64
  split <;> split <;> omega
theorem zz32_fo32 {n : Int} : zz32 (fo32 n) = n % 4294967296 := by
  unfold zz32 fo32
  split <;> split <;> omega

theorem V_sev (n : Nat) : V (sev n) = n := by
  induction n using Nat.strongRecOn with
  | ind n ih =>
    rcases Nat.lt_or_ge n 128 with h | h
    · rw [sev_lo h]; simp [V]; omega
    · rw [sev_hi h]; simp only [V]; rw [ih (n / 128) (by omega)]; omega

theorem lead_sev (n : Nat) (r : List Int) : lead (sev n ++ r) + 1 = (sev n).length := by
  induction n using Nat.strongRecOn with
  | ind n ih =>
    rcases Nat.lt_or_ge n 128 with h | h
    · rw [sev_lo h]; simp only [List.cons_append, List.nil_append, lead, List.length_cons, List.length_nil]; rw [if_neg (by omega)]
    · rw [sev_hi h]; simp only [List.cons_append, lead, List.length_cons]; rw [if_pos (by omega), ih (n / 128) (by omega)]

theorem dv_sev (n : Nat) (hn : n < 18446744073709551616) (r : List Int) : dv (sev n ++ r) = some ((n : Int), (sev n).length) := by
  have h1 := lead_sev n r
  have h2 := sev_len10 hn
  unfold dv
  rw [if_pos ⟨by rw [List.length_append]; omega, by omega⟩, h1, List.take_left', V_sev]
  · simp; omega
  · rfl

theorem f4_lo (n : Int) (r : List Int) : f4 (lo 4 n ++ r) = some (n % 4294967296, 4) := by
  unfold f4
  rw [if_pos (by simp [lo_len]), List.take_left' (lo_len 4 n)]
  simp only [lo, W]
  congr 2
  omega

theorem f8_lo {n : Int} (h0 : 0 ≤ n) (h1 : n ≤ 18446744073709551615) (r : List Int) : f8 (lo 8 n ++ r) = some (n, 8) := by
  unfold f8
  rw [if_pos (by simp [lo_len]), List.take_left' (lo_len 8 n)]
  simp only [lo, W]
  congr 2
  omega

theorem rb_sev (l r : List Int) (hl : l.length ≤ 40000) : rb (sev l.length ++ l ++ r) = some (l, (sev l.length).length + l.length) := by
  unfold rb
  rw [List.append_assoc, dv_sev l.length (by omega)]
  simp only
  rw [if_pos (by rw [List.length_append, List.length_append]; omega)]
  simp

theorem one_enc {k : Nat} (hk : k ≤ 6) {n : Int} (h0 : 0 ≤ n) (h1 : n ≤ 18446744073709551615) {l : List Int} (hl : l.length ≤ 40000) (hlo : k ≤ 4 → l = []) (hhi : ¬ k ≤ 4 → n = 0) (r : List Int) :
    one k (encIt k n l ++ r) = some (⟨k, wholeN k n, l⟩, (encIt k n l).length) := by
  have b64 := fo64_bd h0 h1
  have b32 := fo32_bd n
  by_cases h4 : k ≤ 4
  · obtain rfl := hlo h4
    rw [one_num h4]
    have hc : k = 0 ∨ k = 1 ∨ k = 2 ∨ k = 3 ∨ k = 4 := by omega
    rcases hc with rfl | rfl | rfl | rfl | rfl
    · simp only [num, encIt]; rw [dv_sev _ (by omega)]; simp [wholeN]; omega
    · simp only [num, encIt]; rw [f4_lo]; simp [wholeN, lo_len]
    · simp only [num, encIt]; rw [f8_lo h0 h1]; simp [wholeN, lo_len]
    · simp only [num, encIt]; rw [dv_sev _ (by omega), show ((fo32 n).toNat : Int) = fo32 n from by omega]; simp [wholeN, zz32_fo32]
    · simp only [num, encIt]; rw [dv_sev _ (by omega)]; simp only [Option.map_some]; rw [show ((fo64 n).toNat : Int) = fo64 n from by omega, zz64_fo64 h0 h1]; simp [wholeN]
  · obtain rfl := hhi h4
    rw [one_raw h4]
    have he : encIt k 0 l = sev l.length ++ l := by
      have hc : k = 5 ∨ k = 6 := by omega
      rcases hc with rfl | rfl <;> rfl
    rw [he, rb_sev l r hl]
    have : wholeN k 0 = 0 := by unfold wholeN; rw [if_neg (by omega)]
    simp [this]

/-- A value that the law writes. -/
def Fit (it : It) : Prop := it.kind ≤ 6 ∧ 0 ≤ it.n ∧ it.n ≤ 18446744073709551615 ∧ it.bytes.length ≤ 40000 ∧ (it.kind ≤ 4 → it.bytes = []) ∧ (¬ it.kind ≤ 4 → it.n = 0)

/-- What is read of it again. -/
def wholeIt (it : It) : It := ⟨it.kind, wholeN it.kind it.n, it.bytes⟩

theorem many_enc : ∀ (its : List It) (r : List Int), (∀ it ∈ its, Fit it) → many (its.map (·.kind)) (encs' its ++ r) = some (its.map wholeIt, r)
  | [], r, _ => by simp [many, encs']
  | it :: its, r, h => by
    obtain ⟨h1, h2, h3, h4, h5, h6⟩ := h it (by simp)
    have hi := many_enc its r fun x hx => h x (by simp [hx])
    simp only [List.map_cons, many, encs', List.append_assoc]
    rw [one_enc h1 h2 h3 h4 h5 h6]
    simp only [Option.bind_some, List.drop_left]
    rw [hi]
    rfl

end Go.Proofs.Ytobponaenabpgaa.Rd
