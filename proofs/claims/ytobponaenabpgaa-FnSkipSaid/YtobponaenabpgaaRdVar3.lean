/- The contract of the buffer's DecodeVarint, for all bytes. -/
import Derived.Test.YtobponaenabpgaaRdVar2
namespace Go.Proofs.Ytobponaenabpgaa.Rd
open Go.ChangeShapes Go.WideShapes Go.ChangeAt Go.RowKit Sv Go.Proofs.YtobponaenabpgaaW Go.Proofs.YtobponaenabpgaaW.PrintWords
set_option linter.unusedVariables false

theorem val_0 {r : List Int} (hk : 0 < r.length) : V (r.take (0 + 1)) = at8 r 0 % 128 := by
  rw [V_take_succ hk]; simp [V]
theorem val_1 {r : List Int} (hk : 1 < r.length) : V (r.take (1 + 1)) = at8 r 0 % 128 + at8 r 1 % 128 * 128 := by
  rw [V_take_succ hk, val_0 (by omega), show (2 : Int) ^ (7 * 1) = 128 from by decide]
theorem val_2 {r : List Int} (hk : 2 < r.length) : V (r.take (2 + 1)) = at8 r 0 % 128 + at8 r 1 % 128 * 128 + at8 r 2 % 128 * 16384 := by
  rw [V_take_succ hk, val_1 (by omega), show (2 : Int) ^ (7 * 2) = 16384 from by decide]
theorem val_3 {r : List Int} (hk : 3 < r.length) : V (r.take (3 + 1)) = at8 r 0 % 128 + at8 r 1 % 128 * 128 + at8 r 2 % 128 * 16384 + at8 r 3 % 128 * 2097152 := by
  rw [V_take_succ hk, val_2 (by omega), show (2 : Int) ^ (7 * 3) = 2097152 from by decide]
theorem val_4 {r : List Int} (hk : 4 < r.length) : V (r.take (4 + 1)) = at8 r 0 % 128 + at8 r 1 % 128 * 128 + at8 r 2 % 128 * 16384 + at8 r 3 % 128 * 2097152 + at8 r 4 % 128 * 268435456 := by
  rw [V_take_succ hk, val_3 (by omega), show (2 : Int) ^ (7 * 4) = 268435456 from by decide]
theorem val_5 {r : List Int} (hk : 5 < r.length) : V (r.take (5 + 1)) = at8 r 0 % 128 + at8 r 1 % 128 * 128 + at8 r 2 % 128 * 16384 + at8 r 3 % 128 * 2097152 + at8 r 4 % 128 * 268435456 + at8 r 5 % 128 * 34359738368 := by
  rw [V_take_succ hk, val_4 (by omega), show (2 : Int) ^ (7 * 5) = 34359738368 from by decide]
theorem val_6 {r : List Int} (hk : 6 < r.length) : V (r.take (6 + 1)) = at8 r 0 % 128 + at8 r 1 % 128 * 128 + at8 r 2 % 128 * 16384 + at8 r 3 % 128 * 2097152 + at8 r 4 % 128 * 268435456 + at8 r 5 % 128 * 34359738368 + at8 r 6 % 128 * 4398046511104 := by
  rw [V_take_succ hk, val_5 (by omega), show (2 : Int) ^ (7 * 6) = 4398046511104 from by decide]
theorem val_7 {r : List Int} (hk : 7 < r.length) : V (r.take (7 + 1)) = at8 r 0 % 128 + at8 r 1 % 128 * 128 + at8 r 2 % 128 * 16384 + at8 r 3 % 128 * 2097152 + at8 r 4 % 128 * 268435456 + at8 r 5 % 128 * 34359738368 + at8 r 6 % 128 * 4398046511104 + at8 r 7 % 128 * 562949953421312 := by
  rw [V_take_succ hk, val_6 (by omega), show (2 : Int) ^ (7 * 7) = 562949953421312 from by decide]
theorem val_8 {r : List Int} (hk : 8 < r.length) : V (r.take (8 + 1)) = at8 r 0 % 128 + at8 r 1 % 128 * 128 + at8 r 2 % 128 * 16384 + at8 r 3 % 128 * 2097152 + at8 r 4 % 128 * 268435456 + at8 r 5 % 128 * 34359738368 + at8 r 6 % 128 * 4398046511104 + at8 r 7 % 128 * 562949953421312 + at8 r 8 % 128 * 72057594037927936 := by
  rw [V_take_succ hk, val_7 (by omega), show (2 : Int) ^ (7 * 8) = 72057594037927936 from by decide]
theorem val_9 {r : List Int} (hk : 9 < r.length) : V (r.take (9 + 1)) = at8 r 0 % 128 + at8 r 1 % 128 * 128 + at8 r 2 % 128 * 16384 + at8 r 3 % 128 * 2097152 + at8 r 4 % 128 * 268435456 + at8 r 5 % 128 * 34359738368 + at8 r 6 % 128 * 4398046511104 + at8 r 7 % 128 * 562949953421312 + at8 r 8 % 128 * 72057594037927936 + at8 r 9 % 128 * 9223372036854775808 := by
  rw [V_take_succ hk, val_8 (by omega), show (2 : Int) ^ (7 * 9) = 9223372036854775808 from by decide]

theorem form (w : World) (B : Nat) (A : Option Addr) (cap : Nat) (b : List Int) (i : Nat) (h : IsBuf w B A cap b i) (hi : i < b.length) :
    ∃ g, A = some ⟨g, 0, none⟩ ∧ ¬ g = B ∧ ∀ j, j < b.length - i → w.cell? ⟨g, i + j, none⟩ = some (.int .u8 (at8 (b.drop i) j)) := by
  obtain ⟨ad, rfl, hc⟩ := h.holds.2.2 (by omega)
  obtain ⟨g, rfl, hg⟩ := h.ne _ rfl
  refine ⟨g, rfl, hg, fun j hj => ?_⟩
  have := hc (i + j) (by omega)
  rw [PrintWords.add_plain] at this
  rw [this, drop_at]

theorem var_some (w : World) (B : Nat) (A : Option Addr) (cap : Nat) (b : List Int) (i : Nat) (h : IsBuf w B A cap b i) (x : Int) (m : Nat) (hd : dv (b.drop i) = some (x, m)) :
    Calls Try.prog 47 #[.pointer (some ⟨B, 0, none⟩)] w fun e w' => e = .returned (.tuple #[.int .u64 x, .nilIface]) ∧ moved w B (i + m) = w' := by
  have hlen : (b.drop i).length = b.length - i := List.length_drop
  have hB := bytes_drop h.holds.1 i
  unfold dv at hd
  split at hd
  · rename_i hk
    obtain ⟨hk, hk9⟩ := hk
    simp only [Option.some.injEq, Prod.mk.injEq] at hd
    obtain ⟨rfl, rfl⟩ := hd
    obtain ⟨g, rfl, hg, hc⟩ := form w B A cap b i h (by omega)
    have hi := lead_hi (b.drop i)
    have lo := lead_lo _ hk
    have bd := at8_bd hB
    have small := h.small
    have room := h.room
    generalize hkk : lead (b.drop i) = k at *
    by_cases hs : b.length - i ≤ 9
    · by_cases h0 : k = 0
      · subst h0
        have e := val_0 (r := b.drop i) (by omega)
        have := bd 0
        rw [e, show (at8 (b.drop i) 0 % 128) % 18446744073709551616 = at8 (b.drop i) 0 from by omega]
        exact var_one w B g cap b.length i small (by omega) room h.c0 h.c1 h.f1 _ (by omega) lo hg (hc 0 (by omega))
      · have b0 := bd 0
        have l0 := hi 0 (by omega)
        refine var_slow _ w B g cap b.length i small (by omega) (by omega) room h.c0 h.c1 _ l0 b0.2 (hc 0 (by omega)) ?_
        refine (slow_some w B _ cap b i h hs (by rw [hkk]; exact hk)).mono ?_
        rintro e w1 ⟨rfl, rfl⟩
        have hV := V10_bd hB hk (.inl (by omega))
        rw [hkk]
        exact ⟨_, _, rfl, by rw [Int.emod_eq_of_lt hV.1 hV.2], rfl⟩
    · have hcases : k = 0 ∨ k = 1 ∨ k = 2 ∨ k = 3 ∨ k = 4 ∨ k = 5 ∨ k = 6 ∨ k = 7 ∨ k = 8 ∨ k = 9 := by omega
      rcases hcases with rfl | rfl | rfl | rfl | rfl | rfl | rfl | rfl | rfl | rfl
      · have e := val_0 (r := b.drop i) (by omega)
        have := bd 0
        rw [e, show (at8 (b.drop i) 0 % 128) % 18446744073709551616 = at8 (b.drop i) 0 from by omega]
        exact var_one w B g cap b.length i small (by omega) room h.c0 h.c1 h.f1 _ (by omega) lo hg (hc 0 (by omega))
      · have e := val_1 (r := b.drop i) (by omega)
        have b0 := bd 0
        have l0 := hi 0 (by omega)
        have b1 := bd 1
        refine (var_1 w B g cap b.length i small (by omega) room h.c0 h.c1 h.f1 (at8 (b.drop i) 0) (at8 (b.drop i) 1) l0 b0.2 b1.1 lo (hc 0 (by omega)) (hc 1 (by omega)) (and128_lo _ b1.1 lo)).mono ?_
        rintro e1 w1 ⟨rfl, rfl⟩
        exact ⟨ret_num (by rw [e]; omega), rfl⟩
      · have e := val_2 (r := b.drop i) (by omega)
        have b0 := bd 0
        have l0 := hi 0 (by omega)
        have b1 := bd 1
        have l1 := hi 1 (by omega)
        have b2 := bd 2
        refine (var_2 w B g cap b.length i small (by omega) room h.c0 h.c1 h.f1 (at8 (b.drop i) 0) (at8 (b.drop i) 1) (at8 (b.drop i) 2) l0 b0.2 l1 b1.2 b2.1 lo (hc 0 (by omega)) (hc 1 (by omega)) (hc 2 (by omega)) (and128_hi _ l1 b1.2) (and128_lo _ b2.1 lo)).mono ?_
        rintro e1 w1 ⟨rfl, rfl⟩
        exact ⟨ret_num (by rw [e]; omega), rfl⟩
      · have e := val_3 (r := b.drop i) (by omega)
        have b0 := bd 0
        have l0 := hi 0 (by omega)
        have b1 := bd 1
        have l1 := hi 1 (by omega)
        have b2 := bd 2
        have l2 := hi 2 (by omega)
        have b3 := bd 3
        refine (var_3 w B g cap b.length i small (by omega) room h.c0 h.c1 h.f1 (at8 (b.drop i) 0) (at8 (b.drop i) 1) (at8 (b.drop i) 2) (at8 (b.drop i) 3) l0 b0.2 l1 b1.2 l2 b2.2 b3.1 lo (hc 0 (by omega)) (hc 1 (by omega)) (hc 2 (by omega)) (hc 3 (by omega)) (and128_hi _ l1 b1.2) (and128_hi _ l2 b2.2) (and128_lo _ b3.1 lo)).mono ?_
        rintro e1 w1 ⟨rfl, rfl⟩
        exact ⟨ret_num (by rw [e]; omega), rfl⟩
      · have e := val_4 (r := b.drop i) (by omega)
        have b0 := bd 0
        have l0 := hi 0 (by omega)
        have b1 := bd 1
        have l1 := hi 1 (by omega)
        have b2 := bd 2
        have l2 := hi 2 (by omega)
        have b3 := bd 3
        have l3 := hi 3 (by omega)
        have b4 := bd 4
        refine (var_4 w B g cap b.length i small (by omega) room h.c0 h.c1 h.f1 (at8 (b.drop i) 0) (at8 (b.drop i) 1) (at8 (b.drop i) 2) (at8 (b.drop i) 3) (at8 (b.drop i) 4) l0 b0.2 l1 b1.2 l2 b2.2 l3 b3.2 b4.1 lo (hc 0 (by omega)) (hc 1 (by omega)) (hc 2 (by omega)) (hc 3 (by omega)) (hc 4 (by omega)) (and128_hi _ l1 b1.2) (and128_hi _ l2 b2.2) (and128_hi _ l3 b3.2) (and128_lo _ b4.1 lo)).mono ?_
        rintro e1 w1 ⟨rfl, rfl⟩
        exact ⟨ret_num (by rw [e]; omega), rfl⟩
      · have e := val_5 (r := b.drop i) (by omega)
        have b0 := bd 0
        have l0 := hi 0 (by omega)
        have b1 := bd 1
        have l1 := hi 1 (by omega)
        have b2 := bd 2
        have l2 := hi 2 (by omega)
        have b3 := bd 3
        have l3 := hi 3 (by omega)
        have b4 := bd 4
        have l4 := hi 4 (by omega)
        have b5 := bd 5
        refine (var_5 w B g cap b.length i small (by omega) room h.c0 h.c1 h.f1 (at8 (b.drop i) 0) (at8 (b.drop i) 1) (at8 (b.drop i) 2) (at8 (b.drop i) 3) (at8 (b.drop i) 4) (at8 (b.drop i) 5) l0 b0.2 l1 b1.2 l2 b2.2 l3 b3.2 l4 b4.2 b5.1 lo (hc 0 (by omega)) (hc 1 (by omega)) (hc 2 (by omega)) (hc 3 (by omega)) (hc 4 (by omega)) (hc 5 (by omega)) (and128_hi _ l1 b1.2) (and128_hi _ l2 b2.2) (and128_hi _ l3 b3.2) (and128_hi _ l4 b4.2) (and128_lo _ b5.1 lo)).mono ?_
        rintro e1 w1 ⟨rfl, rfl⟩
        exact ⟨ret_num (by rw [e]; omega), rfl⟩
      · have e := val_6 (r := b.drop i) (by omega)
        have b0 := bd 0
        have l0 := hi 0 (by omega)
        have b1 := bd 1
        have l1 := hi 1 (by omega)
        have b2 := bd 2
        have l2 := hi 2 (by omega)
        have b3 := bd 3
        have l3 := hi 3 (by omega)
        have b4 := bd 4
        have l4 := hi 4 (by omega)
        have b5 := bd 5
        have l5 := hi 5 (by omega)
        have b6 := bd 6
        refine (var_6 w B g cap b.length i small (by omega) room h.c0 h.c1 h.f1 (at8 (b.drop i) 0) (at8 (b.drop i) 1) (at8 (b.drop i) 2) (at8 (b.drop i) 3) (at8 (b.drop i) 4) (at8 (b.drop i) 5) (at8 (b.drop i) 6) l0 b0.2 l1 b1.2 l2 b2.2 l3 b3.2 l4 b4.2 l5 b5.2 b6.1 lo (hc 0 (by omega)) (hc 1 (by omega)) (hc 2 (by omega)) (hc 3 (by omega)) (hc 4 (by omega)) (hc 5 (by omega)) (hc 6 (by omega)) (and128_hi _ l1 b1.2) (and128_hi _ l2 b2.2) (and128_hi _ l3 b3.2) (and128_hi _ l4 b4.2) (and128_hi _ l5 b5.2) (and128_lo _ b6.1 lo)).mono ?_
        rintro e1 w1 ⟨rfl, rfl⟩
        exact ⟨ret_num (by rw [e]; omega), rfl⟩
      · have e := val_7 (r := b.drop i) (by omega)
        have b0 := bd 0
        have l0 := hi 0 (by omega)
        have b1 := bd 1
        have l1 := hi 1 (by omega)
        have b2 := bd 2
        have l2 := hi 2 (by omega)
        have b3 := bd 3
        have l3 := hi 3 (by omega)
        have b4 := bd 4
        have l4 := hi 4 (by omega)
        have b5 := bd 5
        have l5 := hi 5 (by omega)
        have b6 := bd 6
        have l6 := hi 6 (by omega)
        have b7 := bd 7
        refine (var_7 w B g cap b.length i small (by omega) room h.c0 h.c1 h.f1 (at8 (b.drop i) 0) (at8 (b.drop i) 1) (at8 (b.drop i) 2) (at8 (b.drop i) 3) (at8 (b.drop i) 4) (at8 (b.drop i) 5) (at8 (b.drop i) 6) (at8 (b.drop i) 7) l0 b0.2 l1 b1.2 l2 b2.2 l3 b3.2 l4 b4.2 l5 b5.2 l6 b6.2 b7.1 lo (hc 0 (by omega)) (hc 1 (by omega)) (hc 2 (by omega)) (hc 3 (by omega)) (hc 4 (by omega)) (hc 5 (by omega)) (hc 6 (by omega)) (hc 7 (by omega)) (and128_hi _ l1 b1.2) (and128_hi _ l2 b2.2) (and128_hi _ l3 b3.2) (and128_hi _ l4 b4.2) (and128_hi _ l5 b5.2) (and128_hi _ l6 b6.2) (and128_lo _ b7.1 lo)).mono ?_
        rintro e1 w1 ⟨rfl, rfl⟩
        exact ⟨ret_num (by rw [e]; omega), rfl⟩
      · have e := val_8 (r := b.drop i) (by omega)
        have b0 := bd 0
        have l0 := hi 0 (by omega)
        have b1 := bd 1
        have l1 := hi 1 (by omega)
        have b2 := bd 2
        have l2 := hi 2 (by omega)
        have b3 := bd 3
        have l3 := hi 3 (by omega)
        have b4 := bd 4
        have l4 := hi 4 (by omega)
        have b5 := bd 5
        have l5 := hi 5 (by omega)
        have b6 := bd 6
        have l6 := hi 6 (by omega)
        have b7 := bd 7
        have l7 := hi 7 (by omega)
        have b8 := bd 8
        refine (var_8 w B g cap b.length i small (by omega) room h.c0 h.c1 h.f1 (at8 (b.drop i) 0) (at8 (b.drop i) 1) (at8 (b.drop i) 2) (at8 (b.drop i) 3) (at8 (b.drop i) 4) (at8 (b.drop i) 5) (at8 (b.drop i) 6) (at8 (b.drop i) 7) (at8 (b.drop i) 8) l0 b0.2 l1 b1.2 l2 b2.2 l3 b3.2 l4 b4.2 l5 b5.2 l6 b6.2 l7 b7.2 b8.1 lo (hc 0 (by omega)) (hc 1 (by omega)) (hc 2 (by omega)) (hc 3 (by omega)) (hc 4 (by omega)) (hc 5 (by omega)) (hc 6 (by omega)) (hc 7 (by omega)) (hc 8 (by omega)) (and128_hi _ l1 b1.2) (and128_hi _ l2 b2.2) (and128_hi _ l3 b3.2) (and128_hi _ l4 b4.2) (and128_hi _ l5 b5.2) (and128_hi _ l6 b6.2) (and128_hi _ l7 b7.2) (and128_lo _ b8.1 lo)).mono ?_
        rintro e1 w1 ⟨rfl, rfl⟩
        exact ⟨ret_num (by rw [e]; omega), rfl⟩
      · have e := val_9 (r := b.drop i) (by omega)
        have b0 := bd 0
        have l0 := hi 0 (by omega)
        have b1 := bd 1
        have l1 := hi 1 (by omega)
        have b2 := bd 2
        have l2 := hi 2 (by omega)
        have b3 := bd 3
        have l3 := hi 3 (by omega)
        have b4 := bd 4
        have l4 := hi 4 (by omega)
        have b5 := bd 5
        have l5 := hi 5 (by omega)
        have b6 := bd 6
        have l6 := hi 6 (by omega)
        have b7 := bd 7
        have l7 := hi 7 (by omega)
        have b8 := bd 8
        have l8 := hi 8 (by omega)
        have b9 := bd 9
        refine (var_9 w B g cap b.length i small (by omega) room h.c0 h.c1 h.f1 (at8 (b.drop i) 0) (at8 (b.drop i) 1) (at8 (b.drop i) 2) (at8 (b.drop i) 3) (at8 (b.drop i) 4) (at8 (b.drop i) 5) (at8 (b.drop i) 6) (at8 (b.drop i) 7) (at8 (b.drop i) 8) (at8 (b.drop i) 9) l0 b0.2 l1 b1.2 l2 b2.2 l3 b3.2 l4 b4.2 l5 b5.2 l6 b6.2 l7 b7.2 l8 b8.2 b9.1 lo (hc 0 (by omega)) (hc 1 (by omega)) (hc 2 (by omega)) (hc 3 (by omega)) (hc 4 (by omega)) (hc 5 (by omega)) (hc 6 (by omega)) (hc 7 (by omega)) (hc 8 (by omega)) (hc 9 (by omega)) (and128_hi _ l1 b1.2) (and128_hi _ l2 b2.2) (and128_hi _ l3 b3.2) (and128_hi _ l4 b4.2) (and128_hi _ l5 b5.2) (and128_hi _ l6 b6.2) (and128_hi _ l7 b7.2) (and128_hi _ l8 b8.2) (and128_lo _ b9.1 lo)).mono ?_
        rintro e1 w1 ⟨rfl, rfl⟩
        exact ⟨ret_num (by rw [e]; omega), rfl⟩
  · simp at hd

theorem var_none (w : World) (B : Nat) (A : Option Addr) (cap : Nat) (b : List Int) (i : Nat) (h : IsBuf w B A cap b i) (hd : dv (b.drop i) = none) :
    Calls Try.prog 47 #[.pointer (some ⟨B, 0, none⟩)] w (ErrPost w) := by
  have hlen : (b.drop i).length = b.length - i := List.length_drop
  have hB := bytes_drop h.holds.1 i
  have small := h.small
  have room := h.room
  have le := h.le
  have ll := lead_le (b.drop i)
  unfold dv at hd
  split at hd
  · simp at hd
  · rename_i hk
    by_cases h0 : i = b.length
    · subst h0
      exact var_end w B A cap b.length small h.c0 h.c1
    · obtain ⟨g, rfl, hg, hc⟩ := form w B A cap b i h (by omega)
      have hi := lead_hi (b.drop i)
      have bd := at8_bd hB
      have hlead : lead (b.drop i) = (b.drop i).length ∨ 9 < lead (b.drop i) := by omega
      have b0 := bd 0
      have l0 := hi 0 (by omega)
      by_cases hs : b.length - i ≤ 9
      · refine var_slow _ w B g cap b.length i small (by omega) (by omega) room h.c0 h.c1 _ l0 b0.2 (hc 0 (by omega)) ?_
        refine (slow_none w B _ cap b i h hs (by omega)).mono ?_
        rintro e w1 ⟨x, s, rfl, rfl⟩
        exact ⟨_, _, rfl, _, _, rfl, rfl⟩
      · have l9 : 9 < lead (b.drop i) := by omega
        have b1 := bd 1
        have l1 := hi 1 (by omega)
        have b2 := bd 2
        have l2 := hi 2 (by omega)
        have b3 := bd 3
        have l3 := hi 3 (by omega)
        have b4 := bd 4
        have l4 := hi 4 (by omega)
        have b5 := bd 5
        have l5 := hi 5 (by omega)
        have b6 := bd 6
        have l6 := hi 6 (by omega)
        have b7 := bd 7
        have l7 := hi 7 (by omega)
        have b8 := bd 8
        have l8 := hi 8 (by omega)
        have b9 := bd 9
        have l9 := hi 9 (by omega)
        exact var_over w B g cap b.length i small (by omega) room h.c0 h.c1 h.f1 (at8 (b.drop i) 0) (at8 (b.drop i) 1) (at8 (b.drop i) 2) (at8 (b.drop i) 3) (at8 (b.drop i) 4) (at8 (b.drop i) 5) (at8 (b.drop i) 6) (at8 (b.drop i) 7) (at8 (b.drop i) 8) (at8 (b.drop i) 9) l0 b0.2 l1 b1.2 l2 b2.2 l3 b3.2 l4 b4.2 l5 b5.2 l6 b6.2 l7 b7.2 l8 b8.2 l9 b9.2 (hc 0 (by omega)) (hc 1 (by omega)) (hc 2 (by omega)) (hc 3 (by omega)) (hc 4 (by omega)) (hc 5 (by omega)) (hc 6 (by omega)) (hc 7 (by omega)) (hc 8 (by omega)) (hc 9 (by omega)) (and128_hi _ l1 b1.2) (and128_hi _ l2 b2.2) (and128_hi _ l3 b3.2) (and128_hi _ l4 b4.2) (and128_hi _ l5 b5.2) (and128_hi _ l6 b6.2) (and128_hi _ l7 b7.2) (and128_hi _ l8 b8.2) (and128_hi _ l9 b9.2)

end Go.Proofs.Ytobponaenabpgaa.Rd
