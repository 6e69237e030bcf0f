/- The skipping of a field, as the package does it. -/
import Derived.Test.YtobponaenabpgaaSkTree
import Derived.Test.YtobponaenabpgaaRdVar3
namespace Go.Proofs.Ytobponaenabpgaa.Rd
open Go.ChangeShapes Go.WideShapes Go.ChangeAt Go.RowKit Sv Go.Proofs.YtobponaenabpgaaW Go.Proofs.YtobponaenabpgaaW.PrintWords
set_option linter.unusedVariables false

/-- A number stands at a place of the bytes. -/
structure NumAt (l : List Int) (p : Nat) (m : Nat) (k : Nat) : Prop where
  len : p + k < l.length
  hi : ∀ j, j < k → 128 ≤ at8 l (p + j)
  lo : at8 l (p + k) < 128
  val : V ((l.drop p).take (k + 1)) = m

theorem numAt_of {l r : List Int} {p m : Nat} (h : l.drop p = sev m ++ r) : NumAt l p m ((sev m).length - 1) := by
  have h1 := lead_sev m r
  have h2 := sev_pos m
  have h3 : (l.drop p).length = (sev m).length + r.length := by rw [h, List.length_append]
  rw [List.length_drop] at h3
  have e : lead (l.drop p) = (sev m).length - 1 := by rw [h]; omega
  refine ⟨by omega, fun j hj => ?_, ?_, ?_⟩
  · rw [← drop_at]; exact lead_hi _ j (by omega)
  · rw [← drop_at, ← e]; exact lead_lo _ (by rw [e, List.length_drop]; omega)
  · rw [show (sev m).length - 1 + 1 = (sev m).length from by omega, h, List.take_left', V_sev]
    rfl

/-- The bytes that Skip is handed. -/
def Data (w : World) (g off : Nat) (l : List Int) : Prop := Bytes8 l ∧ ∀ j, j < l.length → w.cell? ⟨g, off + j, none⟩ = some (.int .u8 (at8 l j))

theorem step_at {l : List Int} (hB : Bytes8 l) {p m k j : Nat} (h : NumAt l p m k) (hj : j ≤ k) (h9 : j < 9) :
    bits .or .u64 (V ((l.drop p).take j)) (IntKind.u64.wrap (at8 l (p + j) % 128 * 2 ^ (7 * j))) = V ((l.drop p).take (j + 1)) := by
  have := step_eq (bytes_drop hB p) (k := j) (by rw [List.length_drop]; have := h.len; omega) (.inl h9)
  rwa [drop_at] at this

set_option maxRecDepth 100000 in
theorem and7 (m : Nat) (hm : (m : Int) ≤ 34359738367) {q : Nat} (hq : m % 8 = q) : bits .and .u64 m 7 = (q : Int) := by
  rw [u64_and (m : Int) _ (by omega) (by omega) (by omega) (by omega), show (7 : Int).toNat = 2 ^ 3 - 1 from by decide, Nat.and_two_pow_sub_one_eq_mod, Int.toNat_natCast]
  have : m % 2 ^ 3 = q := hq
  rw [this]

theorem and127_i64_nat : ∀ c : Nat, c < 256 → bits .and .i64 (c : Int) 127 = ((c % 128 : Nat) : Int) := by decide +kernel
theorem and127_i64 (c : Int) (h0 : 0 ≤ c) (h1 : c < 256) : bits .and .i64 c 127 = c % 128 := by
  obtain ⟨c, rfl⟩ := Int.eq_ofNat_of_zero_le h0
  rw [and127_i64_nat c (by omega)]
  omega

theorem or_i64_0 : ∀ c : Nat, c < 128 → bits .or .i64 (0 : Int) (c : Int) = (c : Int) := by decide +kernel
theorem or_i64_1 : ∀ c : Nat, c < 128 → bits .or .i64 (c : Int) 128 = (c : Int) + 128 := by decide +kernel

theorem or_i64_z : ∀ c : Nat, c < 128 → bits .or .i64 (c : Int) 0 = (c : Int) := by decide +kernel

/-- The length's bytes: at most two. -/
theorem step_i64 {l : List Int} (hB : Bytes8 l) {p m k j : Nat} (h : NumAt l p m k) (hm : m ≤ 255) (hk : k ≤ 1) (hj : j ≤ k) :
    bits .or .i64 (V ((l.drop p).take j)) (at8 l (p + j) % 128 * 2 ^ (7 * j)) = V ((l.drop p).take (j + 1)) ∧ 0 ≤ at8 l (p + j) % 128 * 2 ^ (7 * j) ∧ at8 l (p + j) % 128 * 2 ^ (7 * j) ≤ 127 * 128 := by
  have hlen : (l.drop p).length = l.length - p := List.length_drop
  have hkl := h.len
  have v1 := V_take_succ (l := l.drop p) (k := j) (by omega)
  have b0 := at8_bd hB p
  have b1 := at8_bd hB (p + j)
  rw [drop_at] at v1
  have hcs : j = 0 ∨ (j = 1 ∧ k = 1) := by omega
  rcases hcs with rfl | ⟨rfl, rfl⟩
  · have e0 : V ((l.drop p).take 0) = 0 := by simp [V]
    rw [e0] at v1 ⊢
    simp only [Nat.mul_zero, Int.pow_zero, Int.mul_one, Nat.add_zero] at v1 b1 ⊢
    obtain ⟨c, hc⟩ := Int.eq_ofNat_of_zero_le (a := at8 l p % 128) (by omega)
    rw [v1, hc, or_i64_0 c (by omega)]
    exact ⟨by omega, by omega, by omega⟩
  · have v0 := V_take_succ (l := l.drop p) (k := 0) (by omega)
    rw [drop_at] at v0
    have e0 : V ((l.drop p).take 0) = 0 := by simp [V]
    rw [e0] at v0
    simp only [Nat.mul_zero, Int.pow_zero, Int.mul_one, Nat.add_zero, Nat.zero_add, Int.zero_add] at v0
    have hv := h.val
    have e7 : (2 : Int) ^ (7 * 1) = 128 := by decide
    rw [e7] at v1 ⊢
    rw [v1, v0] at hv
    have hx : at8 l (p + 1) % 128 = 0 ∨ at8 l (p + 1) % 128 = 1 := by omega
    rw [v1, v0]
    obtain ⟨c, hc⟩ := Int.eq_ofNat_of_zero_le (a := at8 l p % 128) (by omega)
    rw [hc]
    rcases hx with hx | hx
    · have := or_i64_0 0 (by omega)
      rw [hx, Int.zero_mul]
      have hz : bits .or .i64 (c : Int) 0 = (c : Int) := or_i64_z c (by omega)
      rw [hz]
      exact ⟨by omega, by omega, by omega⟩
    · rw [hx, Int.one_mul, or_i64_1 c (by omega)]
      exact ⟨by omega, by omega, by omega⟩

def SkipIs (n : Nat) (w : World) (e : Ending) (w' : World) : Prop := e = .returned (.tuple #[.int .i64 n, .nilIface]) ∧ w = w'

set_option maxHeartbeats 2000000 in
set_option maxRecDepth 100000 in
theorem skip_1 (w : World) (g off c n : Nat) (l : List Int) (hl : l.length = n) (hn : n ≤ 1000000000) (hD : Data w g off l) (m k : Nat) (hm : m % 8 = 1) (hm2 : (m : Int) ≤ 34359738367) (hk : k ≤ 4) (hN : NumAt l 0 m k) :
    Calls Try.prog 40 #[.slice (some ⟨g, off, none⟩) n c] w (SkipIs (k + 1 + 8) w) := by
  have hkn : k < n := by have := hN.len; omega
  have HL := Lib.hid hl
  have HN := Lib.hid hN
  have HC := Lib.hid hD.2
  have hB := hD.1
  have HB := Lib.hid hB
  have H8 := Lib.hid (and7 m hm2 hm)
  have hd0 : decide (0 < n) = true := decide_eq_true (by omega)
  clear hl hN hD hm
  go_enter Try.func40, Try.ntmps40
  go_wp2
  refine wp_loop_rounds 1 ?_
  rw [rounds_succ]
  go_wp2
  go_loop [5, 6, 7] (fun i x s => ∃ j : Nat, j ≤ k ∧ i = .int .i64 j ∧ s = .int .u64 (7 * j) ∧ x = .int .u64 (V (l.take j))) (fun i _ _ => n - (intOf i).toNat)
  case atStart => exact ⟨0, Nat.zero_le _, rfl, rfl, by simp [V]⟩
  case round =>
    obtain ⟨j, hj, rfl, rfl, rfl⟩ := hrel
    have hcell := HC.out j (by have := HL.out; omega)
    have hb := at8_bd hB j
    have ha := and127 (at8 l j) (by omega) (by omega)
    have hs := step_at HB.out HN.out hj (by omega)
    rw [Nat.zero_add, List.drop_zero] at hs
    by_cases e : j = k
    · subst e
      have hlo := HN.out.lo
      rw [Nat.zero_add] at hlo
      have hv := HN.out.val
      rw [List.drop_zero] at hv
      rw [hv] at hs
      have HV := Lib.hid hv
      clear hv
      have h8 := H8.out
      go_wp2
      go_returns
      exact ⟨by go_num, rfl⟩
    · have hhi := HN.out.hi j (by omega)
      rw [Nat.zero_add] at hhi
      have HS := Lib.hid hs
      clear hs
      go_wp2
      go_round
      case rel => exact ⟨j + 1, by omega, by go_num, by go_num, by rw [HS.out]⟩
      case measure => simp [intOf]; omega

set_option maxHeartbeats 2000000 in
set_option maxRecDepth 100000 in
theorem skip_5 (w : World) (g off c n : Nat) (l : List Int) (hl : l.length = n) (hn : n ≤ 1000000000) (hD : Data w g off l) (m k : Nat) (hm : m % 8 = 5) (hm2 : (m : Int) ≤ 34359738367) (hk : k ≤ 4) (hN : NumAt l 0 m k) :
    Calls Try.prog 40 #[.slice (some ⟨g, off, none⟩) n c] w (SkipIs (k + 1 + 4) w) := by
  have hkn : k < n := by have := hN.len; omega
  have HL := Lib.hid hl
  have HN := Lib.hid hN
  have HC := Lib.hid hD.2
  have hB := hD.1
  have HB := Lib.hid hB
  have H8 := Lib.hid (and7 m hm2 hm)
  have hd0 : decide (0 < n) = true := decide_eq_true (by omega)
  clear hl hN hD hm
  go_enter Try.func40, Try.ntmps40
  go_wp2
  refine wp_loop_rounds 1 ?_
  rw [rounds_succ]
  go_wp2
  go_loop [5, 6, 7] (fun i x s => ∃ j : Nat, j ≤ k ∧ i = .int .i64 j ∧ s = .int .u64 (7 * j) ∧ x = .int .u64 (V (l.take j))) (fun i _ _ => n - (intOf i).toNat)
  case atStart => exact ⟨0, Nat.zero_le _, rfl, rfl, by simp [V]⟩
  case round =>
    obtain ⟨j, hj, rfl, rfl, rfl⟩ := hrel
    have hcell := HC.out j (by have := HL.out; omega)
    have hb := at8_bd hB j
    have ha := and127 (at8 l j) (by omega) (by omega)
    have hs := step_at HB.out HN.out hj (by omega)
    rw [Nat.zero_add, List.drop_zero] at hs
    by_cases e : j = k
    · subst e
      have hlo := HN.out.lo
      rw [Nat.zero_add] at hlo
      have hv := HN.out.val
      rw [List.drop_zero] at hv
      rw [hv] at hs
      have HV := Lib.hid hv
      clear hv
      have h8 := H8.out
      go_wp2
      go_returns
      exact ⟨by go_num, rfl⟩
    · have hhi := HN.out.hi j (by omega)
      rw [Nat.zero_add] at hhi
      have HS := Lib.hid hs
      clear hs
      go_wp2
      go_round
      case rel => exact ⟨j + 1, by omega, by go_num, by go_num, by rw [HS.out]⟩
      case measure => simp [intOf]; omega

set_option maxHeartbeats 2000000 in
set_option maxRecDepth 100000 in
theorem skip_0 (w : World) (g off c n : Nat) (l : List Int) (hl : l.length = n) (hn : n ≤ 1000000000) (hD : Data w g off l) (m k : Nat) (hm : m % 8 = 0) (hm2 : (m : Int) ≤ 34359738367) (hk : k ≤ 4) (hN : NumAt l 0 m k) (m2 k2 : Nat) (hN2 : NumAt l (k + 1) m2 k2) :
    Calls Try.prog 40 #[.slice (some ⟨g, off, none⟩) n c] w (SkipIs (k + 1 + k2 + 1) w) := by
  have hkn : k < n := by have := hN.len; omega
  have HL := Lib.hid hl
  have HN := Lib.hid hN
  have HC := Lib.hid hD.2
  have hB := hD.1
  have HB := Lib.hid hB
  have H8 := Lib.hid (and7 m hm2 hm)
  have hd0 : decide (0 < n) = true := decide_eq_true (by omega)
  have HN2 := Lib.hid hN2
  clear hN2
  clear hl hN hD hm
  go_enter Try.func40, Try.ntmps40
  go_wp2
  refine wp_loop_rounds 1 ?_
  rw [rounds_succ]
  go_wp2
  go_loop [5, 6, 7] (fun i x s => ∃ j : Nat, j ≤ k ∧ i = .int .i64 j ∧ s = .int .u64 (7 * j) ∧ x = .int .u64 (V (l.take j))) (fun i _ _ => n - (intOf i).toNat)
  case atStart => exact ⟨0, Nat.zero_le _, rfl, rfl, by simp [V]⟩
  case round =>
    obtain ⟨j, hj, rfl, rfl, rfl⟩ := hrel
    have hcell := HC.out j (by have := HL.out; omega)
    have hb := at8_bd hB j
    have ha := and127 (at8 l j) (by omega) (by omega)
    have hs := step_at HB.out HN.out hj (by omega)
    rw [Nat.zero_add, List.drop_zero] at hs
    by_cases e : j = k
    · subst e
      have hlo := HN.out.lo
      rw [Nat.zero_add] at hlo
      have hv := HN.out.val
      rw [List.drop_zero] at hv
      rw [hv] at hs
      have HV := Lib.hid hv
      clear hv
      have h8 := H8.out
      obtain ⟨p, hp⟩ : ∃ p, j + 1 = p := ⟨_, rfl⟩
      have HP := Lib.hid hp
      have hp1 : p = j + 1 := hp.symm
      have H2 := HN2.out
      rw [hp] at H2
      have HN3 := Lib.hid H2
      have hlen := H2.len
      have hpn : p + k2 < n := by have := HL.out; omega
      clear hp HN2 H2 hlen
      go_wp2_with fail
      go_loop [5] (fun i => ∃ q : Nat, p ≤ q ∧ q ≤ p + k2 ∧ i = .int .i64 q) (fun i => n - (intOf i).toNat)
      case atStart => exact ⟨p, Nat.le_refl _, Nat.le_add_right _ _, by rw [hp1]; go_num⟩
      case round =>
        obtain ⟨q, hq1, hq2, rfl⟩ := hrel
        have hcq := HC.out q (by have := HL.out; omega)
        have hbq := at8_bd hB q
        clear hcell hb ha hs hlo h8 hp1
        by_cases e : q = p + k2
        · have hlo := HN3.out.lo
          rw [← e] at hlo
          have HE := Lib.hid e
          clear e
          go_wp2
          go_returns
          exact ⟨by have := HE.out; have := HP.out; go_num, rfl⟩
        · have hhi := HN3.out.hi (q - p) (by omega)
          rw [show p + (q - p) = q from by omega] at hhi
          go_wp2
          go_round
          case rel => exact ⟨q + 1, by omega, by omega, by go_num⟩
          case measure => simp [intOf]; omega
    · have hhi := HN.out.hi j (by omega)
      rw [Nat.zero_add] at hhi
      have HS := Lib.hid hs
      clear hs
      go_wp2
      go_round
      case rel => exact ⟨j + 1, by omega, by go_num, by go_num, by rw [HS.out]⟩
      case measure => simp [intOf]; omega

set_option maxHeartbeats 2000000 in
set_option maxRecDepth 100000 in
theorem skip_2 (w : World) (g off c n : Nat) (l : List Int) (hl : l.length = n) (hn : n ≤ 1000000000) (hD : Data w g off l) (m k : Nat) (hm : m % 8 = 2) (hm2 : (m : Int) ≤ 34359738367) (hk : k ≤ 4) (hN : NumAt l 0 m k) (m2 k2 : Nat) (hm3 : m2 ≤ 255) (hk2 : k2 ≤ 1) (hN2 : NumAt l (k + 1) m2 k2) :
    Calls Try.prog 40 #[.slice (some ⟨g, off, none⟩) n c] w (SkipIs (k + 1 + k2 + 1 + m2) w) := by
  have hkn : k < n := by have := hN.len; omega
  have HL := Lib.hid hl
  have HN := Lib.hid hN
  have HC := Lib.hid hD.2
  have hB := hD.1
  have HB := Lib.hid hB
  have H8 := Lib.hid (and7 m hm2 hm)
  have hd0 : decide (0 < n) = true := decide_eq_true (by omega)
  have HN2 := Lib.hid hN2
  clear hN2
  clear hl hN hD hm
  go_enter Try.func40, Try.ntmps40
  go_wp2
  refine wp_loop_rounds 1 ?_
  rw [rounds_succ]
  go_wp2
  go_loop [5, 6, 7] (fun i x s => ∃ j : Nat, j ≤ k ∧ i = .int .i64 j ∧ s = .int .u64 (7 * j) ∧ x = .int .u64 (V (l.take j))) (fun i _ _ => n - (intOf i).toNat)
  case atStart => exact ⟨0, Nat.zero_le _, rfl, rfl, by simp [V]⟩
  case round =>
    obtain ⟨j, hj, rfl, rfl, rfl⟩ := hrel
    have hcell := HC.out j (by have := HL.out; omega)
    have hb := at8_bd hB j
    have ha := and127 (at8 l j) (by omega) (by omega)
    have hs := step_at HB.out HN.out hj (by omega)
    rw [Nat.zero_add, List.drop_zero] at hs
    by_cases e : j = k
    · subst e
      have hlo := HN.out.lo
      rw [Nat.zero_add] at hlo
      have hv := HN.out.val
      rw [List.drop_zero] at hv
      rw [hv] at hs
      have HV := Lib.hid hv
      clear hv
      have h8 := H8.out
      obtain ⟨p, hp⟩ : ∃ p, j + 1 = p := ⟨_, rfl⟩
      have HP := Lib.hid hp
      have hp1 : p = j + 1 := hp.symm
      have H2 := HN2.out
      rw [hp] at H2
      have HN3 := Lib.hid H2
      have hlen := H2.len
      have hpn : p + k2 < n := by have := HL.out; omega
      clear hp HN2 H2 hlen
      go_wp2_with fail
      go_loop [5, 10, 11] (fun i x s => ∃ q z : Nat, q ≤ k2 ∧ Hid (z = p + q) ∧ z ≤ p + k2 ∧ i = .int .i64 z ∧ s = .int .u64 (7 * q) ∧ x = .int .i64 (V ((l.drop p).take q))) (fun i _ _ => n - (intOf i).toNat)
      case atStart => exact ⟨0, p, Nat.zero_le _, rfl, Nat.le_add_right _ _, by rw [hp1]; go_num, rfl, by simp [V]⟩
      case round =>
        obtain ⟨q, z, hq, HZ, hzk, rfl, rfl, rfl⟩ := hrel
        clear hcell hb ha hs hlo h8 hp1
        have hcq := HC.out z (by have := HL.out; omega)
        have hbq := at8_bd hB z
        have haq := and127_i64 (at8 l z) (by omega) (by omega)
        obtain ⟨hsq, hs1, hs2⟩ := step_i64 HB.out HN3.out hm3 hk2 hq
        rw [← HZ.out] at hsq hs1 hs2
        have hzn : z < n := by omega
        have hlo3 := HN3.out.lo
        have hhi3 := HN3.out.hi q
        by_cases e : q = k2
        · subst e
          rw [← HZ.out] at hlo3
          rw [HN3.out.val] at hsq
          clear hhi3
          go_wp2
          go_returns
          exact ⟨by have := HP.out; have := HZ.out; go_num, rfl⟩
        · have hhi4 := hhi3 (by omega)
          rw [← HZ.out] at hhi4
          have HS := Lib.hid hsq
          clear hlo3 hhi3 hsq
          go_wp2
          go_round
          case rel => exact ⟨q + 1, z + 1, by omega, by have := HZ.out; exact (by omega : z + 1 = p + (q + 1)), by have := HZ.out; omega, by go_num, by go_num, by rw [HS.out]⟩
          case measure => simp [intOf]; omega
    · have hhi := HN.out.hi j (by omega)
      rw [Nat.zero_add] at hhi
      have HS := Lib.hid hs
      clear hs
      go_wp2
      go_round
      case rel => exact ⟨j + 1, by omega, by go_num, by go_num, by rw [HS.out]⟩
      case measure => simp [intOf]; omega

end Go.Proofs.Ytobponaenabpgaa.Rd
