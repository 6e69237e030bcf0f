/- The contract of EncodeVarint of the package. -/
import Derived.Test.YtobponaenabpgaaSvWrite
import Derived.Laws.OwnMore
namespace Go.Proofs.Ytobponaenabpgaa.Sv
open Go.ChangeShapes Go.WideShapes Go.ChangeAt Go.RowKit Go.Proofs.YtobponaenabpgaaW Go.Proofs.YtobponaenabpgaaW.PrintWords
set_option linter.unusedVariables false

theorem own_spare {W : World} {base g n cap : Nat} {e : TypeId} {xs : List Value} (h : W.ownsRow base e 1 (.slice (some ⟨g, 0, none⟩) n cap) n xs) (hn : n < cap) :
    (∃ u, W.cell? ⟨g, n, none⟩ = some u) ∧ W.frozen? ⟨g, n, none⟩ = false := by
  rcases h.2 with ⟨h', _⟩ | ⟨g', cap', cur, h', hb, hg, hnc, hcm, hcs, htake⟩
  · simp at h'
  · simp only [Value.slice.injEq, Option.some.injEq, Addr.mk.injEq, and_true, true_and] at h'
    obtain ⟨rfl, rfl⟩ := h'
    refine ⟨⟨cur[n]'(by omega), ?_⟩, ?_⟩
    · simp [World.cell?, hg, Array.getElem?_eq_getElem (show n < cur.size by omega)]
    · simp [World.frozen?, hg]

theorem own_spare_store {W : World} {base g n cap : Nat} {e : TypeId} {xs : List Value} (h : W.ownsRow base e 1 (.slice (some ⟨g, 0, none⟩) n cap) n xs) (hn : n < cap) (u : Value) :
    (W.setCell ⟨g, n, none⟩ u).ownsRow base e 1 (.slice (some ⟨g, 0, none⟩) (n + 1) cap) (n + 1) (xs ++ [u]) ∧ W.grownBy (W.setCell ⟨g, n, none⟩ u) (some g) := by
  rcases h.2 with ⟨h', _⟩ | ⟨g', cap', cur, h', hb, hg, hnc, hcm, hcs, htake⟩
  · simp at h'
  · simp only [Value.slice.injEq, Option.some.injEq, Addr.mk.injEq, and_true, true_and] at h'
    obtain ⟨rfl, rfl⟩ := h'
    have hl := h.1
    refine ⟨⟨by simp; omega, .inr ⟨g, cap, cur.setIfInBounds n u, rfl, hb, heap_setCell_same W g n cur e u hg, by omega, hcm, by simpa using hcs, ?_⟩⟩,
      ⟨rfl, rfl, rfl, by simp, fun k _ hk => heap_setCell_other W ⟨g, n, none⟩ k u (fun e => hk (by simp [e]))⟩⟩
    rw [Array.toList_setIfInBounds, ← htake]
    have hlen : n < cur.toList.length := by simp; omega
    rw [Nat.mul_one, Nat.mul_one, List.take_succ_eq_append_getElem (by simpa using hlen), List.take_set_of_le (Nat.le_refl n)]
    simp

theorem and127_any (m : Nat) (hm : (m : Int) ≤ 18446744073709551615) : bits .and .u64 m 127 = (m : Int) % 128 := by
  rw [u64_and m _ (by omega) (by omega) (by omega) (by omega), show (127 : Int).toNat = 2 ^ 7 - 1 from by decide, Nat.and_two_pow_sub_one_eq_mod]
  omega
theorem nat_or128 : ∀ c : Nat, c < 128 → 128 ||| c = c + 128 := by decide +kernel
theorem or128_any (c : Int) (h0 : 0 ≤ c) (h1 : c < 128) : bits .or .u8 128 c = c + 128 := by
  rw [u8_or 128 c (by omega) (by omega) h0 (by omega), show (128 : Int).toNat = 128 from rfl, nat_or128 _ (by omega)]
  omega

theorem arr105 : Try.prog.underlying 105 = some (.array (Try.prog.arrayLen 105) (Try.prog.elem 105)) := by kernel_rfl
theorem len105 : Try.prog.arrayLen 105 = 10 := by kernel_rfl
theorem size5 (W : World) : (sizeOf (Try.prog.elem 105)).run Try.prog W = .ok 1 W := by kernel_rfl
theorem slice_arr (g k : Nat) (hk : k + 1 ≤ 10) (W : World) :
    (Instr.sliceAt 105 (.pointer (some ⟨g, 0, none⟩)) (some (.int .i64 0)) (some (.int .i64 ((k : Int) + 1))) none).run Try.prog W = .ok (.slice (some ⟨g, 0, none⟩) (k + 1) 10) W := by
  rw [run_sliceAt_array_lh W 105 ⟨g, 0, none⟩ arr105 .i64 .i64 0 ((k : Int) + 1) (by omega) (by omega) (by rw [len105]; omega), size5, len105]
  have e : ((k : Int) + 1).toNat = k + 1 := by omega
  simp only [Result.andThen, slicedAt, e, Int.toNat_zero]
  have : ¬ (10 : Nat) = 0 := by omega
  rw [if_neg this, PrintWords.add_plain]; simp

def EncPost (n : Nat) (w : World) (e : Ending) (w' : World) : Prop := ∃ v, e = .returned v ∧ w'.ownsRow w.heap.size 105 1 v (sev n).length (nums .u8 (sev n)) ∧ Below w.heap.size w w'

set_option maxRecDepth 100000 in
theorem enc_any (n : Nat) (hn : (n : Int) ≤ 18446744073709551615) (w : World) : Calls Try.prog 34 #[.int .u64 n] w (EncPost n w) := by
  have hl10 := sev_len10 (n := n) (by omega)
  go_enter Try.func34, Try.ntmps34
  go_wp2
  go_loopw [0, 4] (fun x i wr => ∃ (m : Nat) (xs : List Int), x = .int .u64 m ∧ i = .int .i64 xs.length ∧ (m : Int) ≤ 18446744073709551615 ∧ xs.length + (sev m).length ≤ 10 ∧ Hid (xs ++ sev m = sev n) ∧ Hid (wr.ownsRow w.heap.size 105 1 (.slice (some ⟨w.heap.size, 0, none⟩) xs.length 10) xs.length (nums .u8 xs)) ∧ Hid (Below w.heap.size w wr)) (fun x _ _ => (intOf x).toNat)
  case atStart => exact ⟨n, [], rfl, rfl, hn, by simpa using hl10, rfl, World.ownsRow_made w _ 10 (Nat.le_refl _) (by decide) rfl, (Below.refl _ _).alloc (Nat.le_refl _) _⟩
  case round =>
    obtain ⟨m, xs, rfl, rfl, hm, hlen, HE, HR, HB⟩ := hrel
    have hp := sev_pos m
    obtain ⟨⟨u, hcell⟩, hfz⟩ := own_spare HR.out (by omega)
    by_cases hlt : 127 < m
    · have ha := and127_any m hm
      have hor := or128_any ((m : Int) % 128) (by omega) (by omega)
      go_wp2
      go_roundw
      case rel =>
        have hs := own_spare_store HR.out (by omega) (.int .u8 ((m : Int) % 128 + 128))
        have hls := sev_len_step hlt
        refine ⟨m / 128, xs ++ [(m : Int) % 128 + 128], by go_num, by simp, by omega, by rw [List.length_append]; simp; omega, sev_step hlt HE.out, ?_, ?_⟩
        · rw [List.length_append]
          have := hs.1
          rw [show (nums .u8 xs ++ [Value.int .u8 ((m : Int) % 128 + 128)]) = nums .u8 (xs ++ [(m : Int) % 128 + 128]) from by simp [nums]] at this
          exact this
        · exact HB.out.setCell (Nat.le_refl _) _
      case measure => simp [intOf]; omega
    · have hsm : sev m = [(m : Int)] := sev_lo (by omega)
      have HS := Lib.hid hsm
      clear hsm
      have hsl := slice_arr w.heap.size xs.length (by omega)
      go_wp2
      go_ret
      refine ⟨_, rfl, ?_, HB.out.setCell (Nat.le_refl _) _⟩
      rw [← HE.out, HS.out, List.length_append]
      have := (own_spare_store HR.out (by omega) (.int .u8 (m : Int))).1
      rw [show (nums .u8 xs ++ [Value.int .u8 (m : Int)]) = nums .u8 (xs ++ [(m : Int)]) from by simp [nums]] at this
      exact this

theorem size_out (d : Nat) (n : Nat) (h1 : 2 ^ (7 * d) ≤ n ∨ d = 0) (h2 : n < 2 ^ (7 * (d + 1))) : ((sev n).length : Int) = d + 1 := by
  have a := sev_len d n h2
  have b : d + 1 ≤ (sev n).length := by
    rcases h1 with h1 | h1
    · exact sev_len_ge d n h1
    · subst h1; exact sev_pos n
  omega

theorem size_0 (n : Int) (h2 : (n : Int) < 128) (w : World) : Calls Try.prog 35 #[.int .u64 n] w fun e w' => e = .returned (.int .i64 1) ∧ w = w' := by
  go_enter Try.func35, Try.ntmps35
  go_wp2
  go_ret
  exact ⟨rfl, rfl⟩
theorem size_1 (n : Int) (h1 : (128 : Int) ≤ n) (h2 : (n : Int) < 16384) (w : World) : Calls Try.prog 35 #[.int .u64 n] w fun e w' => e = .returned (.int .i64 2) ∧ w = w' := by
  go_enter Try.func35, Try.ntmps35
  go_wp2
  go_ret
  exact ⟨rfl, rfl⟩
theorem size_2 (n : Int) (h1 : (16384 : Int) ≤ n) (h2 : (n : Int) < 2097152) (w : World) : Calls Try.prog 35 #[.int .u64 n] w fun e w' => e = .returned (.int .i64 3) ∧ w = w' := by
  go_enter Try.func35, Try.ntmps35
  go_wp2
  go_ret
  exact ⟨rfl, rfl⟩
theorem size_3 (n : Int) (h1 : (2097152 : Int) ≤ n) (h2 : (n : Int) < 268435456) (w : World) : Calls Try.prog 35 #[.int .u64 n] w fun e w' => e = .returned (.int .i64 4) ∧ w = w' := by
  go_enter Try.func35, Try.ntmps35
  go_wp2
  go_ret
  exact ⟨rfl, rfl⟩
theorem size_4 (n : Int) (h1 : (268435456 : Int) ≤ n) (h2 : (n : Int) < 34359738368) (w : World) : Calls Try.prog 35 #[.int .u64 n] w fun e w' => e = .returned (.int .i64 5) ∧ w = w' := by
  go_enter Try.func35, Try.ntmps35
  go_wp2
  go_ret
  exact ⟨rfl, rfl⟩
theorem size_5 (n : Int) (h1 : (34359738368 : Int) ≤ n) (h2 : (n : Int) < 4398046511104) (w : World) : Calls Try.prog 35 #[.int .u64 n] w fun e w' => e = .returned (.int .i64 6) ∧ w = w' := by
  go_enter Try.func35, Try.ntmps35
  go_wp2
  go_ret
  exact ⟨rfl, rfl⟩
theorem size_6 (n : Int) (h1 : (4398046511104 : Int) ≤ n) (h2 : (n : Int) < 562949953421312) (w : World) : Calls Try.prog 35 #[.int .u64 n] w fun e w' => e = .returned (.int .i64 7) ∧ w = w' := by
  go_enter Try.func35, Try.ntmps35
  go_wp2
  go_ret
  exact ⟨rfl, rfl⟩
theorem size_7 (n : Int) (h1 : (562949953421312 : Int) ≤ n) (h2 : (n : Int) < 72057594037927936) (w : World) : Calls Try.prog 35 #[.int .u64 n] w fun e w' => e = .returned (.int .i64 8) ∧ w = w' := by
  go_enter Try.func35, Try.ntmps35
  go_wp2
  go_ret
  exact ⟨rfl, rfl⟩
theorem size_8 (n : Int) (h1 : (72057594037927936 : Int) ≤ n) (h2 : (n : Int) < 9223372036854775808) (w : World) : Calls Try.prog 35 #[.int .u64 n] w fun e w' => e = .returned (.int .i64 9) ∧ w = w' := by
  go_enter Try.func35, Try.ntmps35
  go_wp2
  go_ret
  exact ⟨rfl, rfl⟩
theorem size_9 (n : Int) (h1 : (9223372036854775808 : Int) ≤ n) (h2 : (n : Int) ≤ 18446744073709551615) (w : World) : Calls Try.prog 35 #[.int .u64 n] w fun e w' => e = .returned (.int .i64 10) ∧ w = w' := by
  go_enter Try.func35, Try.ntmps35
  go_wp2
  go_ret
  exact ⟨rfl, rfl⟩

theorem size_any (n : Nat) (hn : (n : Int) ≤ 18446744073709551615) (w : World) : Calls Try.prog 35 #[.int .u64 n] w fun e w' => e = .returned (.int .i64 ((sev n).length : Int)) ∧ w = w' := by
  by_cases h1 : (n : Int) < 128
  · rw [size_out 0 n (by right; rfl) (by rw [show 2 ^ (7 * (0 + 1)) = 128 from by decide]; omega)]
    exact size_0 n (by omega) w
  by_cases h2 : (n : Int) < 16384
  · rw [size_out 1 n (by left; rw [show 2 ^ (7 * 1) = 128 from by decide]; omega) (by rw [show 2 ^ (7 * (1 + 1)) = 16384 from by decide]; omega)]
    exact size_1 n (by omega) (by omega) w
  by_cases h3 : (n : Int) < 2097152
  · rw [size_out 2 n (by left; rw [show 2 ^ (7 * 2) = 16384 from by decide]; omega) (by rw [show 2 ^ (7 * (2 + 1)) = 2097152 from by decide]; omega)]
    exact size_2 n (by omega) (by omega) w
  by_cases h4 : (n : Int) < 268435456
  · rw [size_out 3 n (by left; rw [show 2 ^ (7 * 3) = 2097152 from by decide]; omega) (by rw [show 2 ^ (7 * (3 + 1)) = 268435456 from by decide]; omega)]
    exact size_3 n (by omega) (by omega) w
  by_cases h5 : (n : Int) < 34359738368
  · rw [size_out 4 n (by left; rw [show 2 ^ (7 * 4) = 268435456 from by decide]; omega) (by rw [show 2 ^ (7 * (4 + 1)) = 34359738368 from by decide]; omega)]
    exact size_4 n (by omega) (by omega) w
  by_cases h6 : (n : Int) < 4398046511104
  · rw [size_out 5 n (by left; rw [show 2 ^ (7 * 5) = 34359738368 from by decide]; omega) (by rw [show 2 ^ (7 * (5 + 1)) = 4398046511104 from by decide]; omega)]
    exact size_5 n (by omega) (by omega) w
  by_cases h7 : (n : Int) < 562949953421312
  · rw [size_out 6 n (by left; rw [show 2 ^ (7 * 6) = 4398046511104 from by decide]; omega) (by rw [show 2 ^ (7 * (6 + 1)) = 562949953421312 from by decide]; omega)]
    exact size_6 n (by omega) (by omega) w
  by_cases h8 : (n : Int) < 72057594037927936
  · rw [size_out 7 n (by left; rw [show 2 ^ (7 * 7) = 562949953421312 from by decide]; omega) (by rw [show 2 ^ (7 * (7 + 1)) = 72057594037927936 from by decide]; omega)]
    exact size_7 n (by omega) (by omega) w
  by_cases h9 : (n : Int) < 9223372036854775808
  · rw [size_out 8 n (by left; rw [show 2 ^ (7 * 8) = 72057594037927936 from by decide]; omega) (by rw [show 2 ^ (7 * (8 + 1)) = 9223372036854775808 from by decide]; omega)]
    exact size_8 n (by omega) (by omega) w
  rw [size_out 9 n (by left; rw [show 2 ^ (7 * 9) = 9223372036854775808 from by decide]; omega) (by rw [show 2 ^ (7 * (9 + 1)) = 1180591620717411303424 from by decide]; omega)]
  exact size_9 n (by omega) hn w

end Go.Proofs.Ytobponaenabpgaa.Sv
