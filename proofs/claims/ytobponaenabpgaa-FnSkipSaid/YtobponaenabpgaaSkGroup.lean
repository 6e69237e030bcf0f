/- The skipping of a group. -/
import Derived.Test.YtobponaenabpgaaSkSkip
namespace Go.Proofs.Ytobponaenabpgaa.Rd
open Go.ChangeShapes Go.WideShapes Go.ChangeAt Go.RowKit Sv Go.Proofs.YtobponaenabpgaaW Go.Proofs.YtobponaenabpgaaW.PrintWords
set_option linter.unusedVariables false

/-- A field within the group, at its place. -/
structure Inner (w : World) (g off n : Nat) (l : List Int) (p q m k : Nat) : Prop where
  num : NumAt l p m k
  sm : (m : Int) ≤ 34359738367
  k4 : k ≤ 4
  lt : p < q
  le : q ≤ n
  call : ∀ c, n - p ≤ c → Calls Try.prog 40 #[.slice (some ⟨g, off + p, none⟩) (n - p) c] w (SkipIs (q - p) w)

set_option maxHeartbeats 4000000 in
set_option maxRecDepth 100000 in
theorem skip_3 (w : World) (g off c n : Nat) (l : List Int) (hl : l.length = n) (hn : n ≤ 1000000000) (hnc : n ≤ c) (hD : Data w g off l) (m k : Nat) (hm : m % 8 = 3) (hm2 : (m : Int) ≤ 34359738367) (hk : k ≤ 4) (hN : NumAt l 0 m k)
    (N : Nat) (P : Nat → Nat) (hP0 : P 0 = k + 1) (hin : ∀ i, i < N → ∃ m' k', Inner w g off n l (P i) (P (i + 1)) m' k' ∧ m' % 8 ≠ 4) (me ke : Nat) (hE : NumAt l (P N) me ke) (he : me % 8 = 4) (he2 : (me : Int) ≤ 34359738367) (hk2 : ke ≤ 4) :
    Calls Try.prog 40 #[.slice (some ⟨g, off, none⟩) n c] w (SkipIs (P N + ke + 1) w) := by
  have hkn : k < n := by have := hN.len; omega
  have HL := Lib.hid hl
  have HN := Lib.hid hN
  have HC := Lib.hid hD.2
  have hB := hD.1
  have HB := Lib.hid hB
  have H8 := Lib.hid (and7 m hm2 hm)
  have hd0 : decide (0 < n) = true := decide_eq_true (by omega)
  have HP0 := Lib.hid hP0
  have HIN := Lib.hid hin
  have HE := Lib.hid hE
  have HE8 := Lib.hid (and7 me he2 he)
  clear hl hN hD hm hP0 hin hE he
  go_enter Try.func40, Try.ntmps40
  go_wp2
  refine wp_loop_rounds 1 ?_
  rw [rounds_succ]
  go_wp2
  go_loop [5, 6, 7] (fun i x s => ∃ j : Nat, j ≤ k ∧ i = .int .i64 j ∧ s = .int .u64 (7 * j) ∧ x = .int .u64 (V (l.take j))) (fun i _ _ => n - (intOf i).toNat)
  case atStart => exact ⟨0, Nat.zero_le _, rfl, rfl, by simp [V]⟩
  case round =>
    obtain ⟨j, hj, rfl, rfl, rfl⟩ := hrel
    have hcell := HC.out j (by have := HL.out; omega)
    have hb := at8_bd hB j
    have ha := and127 (at8 l j) (by omega) (by omega)
    have hs := step_at HB.out HN.out hj (by omega)
    rw [Nat.zero_add, List.drop_zero] at hs
    by_cases e : j = k
    · subst e
      have hlo := HN.out.lo
      rw [Nat.zero_add] at hlo
      have hv := HN.out.val
      rw [List.drop_zero] at hv
      rw [hv] at hs
      have HV := Lib.hid hv
      clear hv
      have h8 := H8.out
      go_wp2_with fail
      clear hcell hb ha hs hlo h8
      go_loop [5] (fun i => ∃ f p : Nat, f ≤ N ∧ Hid (p = P f) ∧ p ≤ n ∧ i = .int .i64 p) (fun i => n - (intOf i).toNat)
      case atStart => exact ⟨0, j + 1, Nat.zero_le _, HP0.out.symm, by omega, by go_num⟩
      case round =>
        obtain ⟨f, p, hf, HPF, hpn, rfl⟩ := hrel
        by_cases hlt : f < N
        · obtain ⟨m', k', hI, hne⟩ := HIN.out f hlt
          rw [← HPF.out] at hI
          obtain ⟨Q, hQ⟩ : ∃ Q, P (f + 1) = Q := ⟨_, rfl⟩
          rw [hQ] at hI
          have HQ := Lib.hid hQ
          have HI := Lib.hid hI
          have hk' := hI.k4
          have hpq := hI.lt
          have hqn := hI.le
          obtain ⟨w8, hw8⟩ : ∃ w8, m' % 8 = w8 := ⟨_, rfl⟩
          have HW8 := Lib.hid (and7 m' hI.sm hw8)
          have hne4 : ((w8 : Int) == 4) = false := by simp; omega
          have hw7 : w8 ≤ 7 := by omega
          have hlen := hI.num.len
          have hkn' : p + k' < n := by have := HL.out; omega
          clear hI hQ hw8 hlen hne
          go_wp2_with fail
          go_loop [5, 13, 15] (fun i x s => ∃ q z : Nat, q ≤ k' ∧ Hid (z = p + q) ∧ z ≤ p + k' ∧ i = .int .i64 z ∧ s = .int .u64 (7 * q) ∧ x = .int .u64 (V ((l.drop p).take q))) (fun i _ _ => n - (intOf i).toNat)
          case atStart => exact ⟨0, p, Nat.zero_le _, rfl, Nat.le_add_right _ _, rfl, rfl, by simp [V]⟩
          case round =>
            obtain ⟨q, z, hq, HZ, hzk, rfl, rfl, rfl⟩ := hrel
            have hcq := HC.out z (by have := HL.out; omega)
            have hbq := at8_bd hB z
            have haq := and127 (at8 l z) (by omega) (by omega)
            have hsq := step_at HB.out HI.out.num hq (by omega)
            rw [← HZ.out] at hsq
            have hlo3 := HI.out.num.lo
            have hhi3 := HI.out.num.hi q
            by_cases e : q = k'
            · subst e
              rw [← HZ.out] at hlo3
              rw [HI.out.num.val] at hsq
              have h8 := HW8.out
              have hcp : ¬ c = p := by omega
              clear hhi3
              go_wp2_with fail
              refine (HI.out.call _ (by omega)).mono ?_
              rintro e w' ⟨rfl, rfl⟩
              clear hcq hbq haq hsq hlo3 h8 hcp hne4
              go_wp2_with fail
              go_round
              case rel => exact ⟨f + 1, Q, by omega, HQ.out.symm, by omega, by go_num⟩
              case measure => simp [intOf]; omega
            · have hhi4 := hhi3 (by omega)
              rw [← HZ.out] at hhi4
              have HS := Lib.hid hsq
              clear hlo3 hhi3 hsq
              go_wp2
              go_round
              case rel => exact ⟨q + 1, z + 1, by omega, by have := HZ.out; exact (by omega : z + 1 = p + (q + 1)), by have := HZ.out; omega, by go_num, by go_num, by rw [HS.out]⟩
              case measure => simp [intOf]; omega
        · obtain rfl : f = N := by omega
          have hE := HE.out
          rw [← HPF.out] at hE
          have HE' := Lib.hid hE
          have hlen := hE.len
          have hkn' : p + ke < n := by have := HL.out; omega
          clear hE hlen
          go_wp2_with fail
          go_loop [5, 13, 15] (fun i x s => ∃ q z : Nat, q ≤ ke ∧ Hid (z = p + q) ∧ z ≤ p + ke ∧ i = .int .i64 z ∧ s = .int .u64 (7 * q) ∧ x = .int .u64 (V ((l.drop p).take q))) (fun i _ _ => n - (intOf i).toNat)
          case atStart => exact ⟨0, p, Nat.zero_le _, rfl, Nat.le_add_right _ _, rfl, rfl, by simp [V]⟩
          case round =>
            obtain ⟨q, z, hq, HZ, hzk, rfl, rfl, rfl⟩ := hrel
            have hcq := HC.out z (by have := HL.out; omega)
            have hbq := at8_bd hB z
            have haq := and127 (at8 l z) (by omega) (by omega)
            have hsq := step_at HB.out HE'.out hq (by omega)
            rw [← HZ.out] at hsq
            have hlo3 := HE'.out.lo
            have hhi3 := HE'.out.hi q
            by_cases e : q = ke
            · subst e
              rw [← HZ.out] at hlo3
              rw [HE'.out.val] at hsq
              have h8 := HE8.out
              clear hhi3
              go_wp2
              go_returns
              exact ⟨by have := HPF.out; have := HZ.out; go_num, rfl⟩
            · have hhi4 := hhi3 (by omega)
              rw [← HZ.out] at hhi4
              have HS := Lib.hid hsq
              clear hlo3 hhi3 hsq
              go_wp2
              go_round
              case rel => exact ⟨q + 1, z + 1, by omega, by have := HZ.out; exact (by omega : z + 1 = p + (q + 1)), by have := HZ.out; omega, by go_num, by go_num, by rw [HS.out]⟩
              case measure => simp [intOf]; omega
    · have hhi := HN.out.hi j (by omega)
      rw [Nat.zero_add] at hhi
      have HS := Lib.hid hs
      clear hs
      go_wp2
      go_round
      case rel => exact ⟨j + 1, by omega, by go_num, by go_num, by rw [HS.out]⟩
      case measure => simp [intOf]; omega

end Go.Proofs.Ytobponaenabpgaa.Rd
