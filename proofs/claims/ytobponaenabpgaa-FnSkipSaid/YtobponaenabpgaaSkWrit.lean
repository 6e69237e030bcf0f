/- The reference's writing of a field that holds none. -/
import Derived.Test.YtobponaenabpgaaSkTree
import Derived.Test.YtobponaenabpgaaWrItem3
namespace Go.Proofs.Ytobponaenabpgaa.Rd
open Go.ChangeShapes Go.WideShapes Go.ChangeAt Go.RowKit Sv Go.Proofs.YtobponaenabpgaaW Go.Proofs.YtobponaenabpgaaW.PrintWords
set_option linter.unusedVariables false

set_option maxRecDepth 100000 in
theorem or_tag {num k : Int} (h1 : 1 ≤ num) (h2 : num ≤ 536870911) (k0 : 0 ≤ k) (k7 : k ≤ 7) {m : Nat} (hm : (num * 8 + k).toNat = m) : bits .or .u64 (num * 8) k = (m : Int) := by
  rw [u64_or (num * 8) k (by omega) (by omega) (by omega) (by omega), nat_join 3 _ _ (by omega) (by omega)]
  omega

/-- A row made before a call lives on. -/
theorem row_on {w w1 : World} {base : Nat} {v : Value} {l : List Int} (h : Row8 base w v l) (hb : Below w.heap.size w w1) : Row8 base w1 v l := pw_own_below h hb

/-- The cells of the field's box, behind a call. -/
theorem fbox {w w1 : World} {c0 c1 c2 c3 c4 : Value} (hb : Below (w.alloc (.cells #[c0, c1, c2, c3, c4] 38)).heap.size (w.alloc (.cells #[c0, c1, c2, c3, c4] 38)) w1) :
    w1.cell? ⟨w.heap.size, 0, none⟩ = some c0 ∧ w1.cell? ⟨w.heap.size, 1, none⟩ = some c1 ∧ w1.cell? ⟨w.heap.size, 2, none⟩ = some c2 ∧ w1.cell? ⟨w.heap.size, 3, none⟩ = some c3 ∧ w1.cell? ⟨w.heap.size, 4, none⟩ = some c4 := by
  have h := blk_below (heap_alloc_new w (.cells #[c0, c1, c2, c3, c4] 38)) hb
  exact ⟨(blk_cell h 0).trans rfl, (blk_cell h 1).trans rfl, (blk_cell h 2).trans rfl, (blk_cell h 3).trans rfl, (blk_cell h 4).trans rfl⟩

theorem wa_below (w : World) (o : Obj) : Below w.heap.size w (w.alloc o) := (Below.refl _ _).alloc (Nat.le_refl _) _

set_option maxHeartbeats 1000000 in
set_option maxRecDepth 100000 in
theorem wr_0 (w : World) (num n : Int) (h1 : 1 ≤ num) (h2 : num ≤ 536870911) (n0 : 0 ≤ n) (n1 : n ≤ 18446744073709551615) (ba : Option Addr) (bl bc : Nat) (ia : Option Addr) (il ic : Nat) :
    Calls Try.prog 17 #[.agg #[.int .i64 num, .int .i64 0, .int .u64 n, .slice ba bl bc, .slice ia il ic]] w (RowPost (sev (num * 8 + 0).toNat ++ sev n.toNat) w) := by
  obtain ⟨z, rfl⟩ := Int.eq_ofNat_of_zero_le n0
  rw [Int.toNat_natCast]
  obtain ⟨m, hm⟩ : ∃ m, (num * 8 + 0).toNat = m := ⟨_, rfl⟩
  have hor := or_tag h1 h2 (k := 0) (by omega) (by omega) hm
  have hm2 : (m : Int) ≤ 34359738367 := by omega
  have hlm := sev_len10 (n := m) (by omega)
  have HS := Lib.hid fun W (hW : Below (w.alloc (.cells #[.int .i64 num, .int .i64 0, .int .u64 (z : Int), .slice ba bl bc, .slice ia il ic] 38)).heap.size (w.alloc (.cells #[.int .i64 num, .int .i64 0, .int .u64 (z : Int), .slice ba bl bc, .slice ia il ic] 38)) W) => sev_at m (by omega) (w.alloc (.cells #[.int .i64 num, .int .i64 0, .int .u64 (z : Int), .slice ba bl bc, .slice ia il ic] 38)) W hW
  rw [hm]
  clear hm
  go_enter Try.func17, Try.ntmps17
  go_wp2_with fail
  refine (HS.out _ (Below.refl _ _)).mono ?_
  rintro e w1 ⟨v, rfl, ho, hb⟩
  obtain ⟨y0, y1, y2, y3, y4⟩ := fbox hb
  obtain ⟨A1, q1, c1, rfl⟩ := own_any ho
  have HO := Lib.hid ho
  have HB := Lib.hid ((wa_below w _).trans (hb.mono (wa_below w _).size))
  have HBZ := Lib.hid hb.size
  clear ho hb HS hor
  go_wp2_with fail
  refine (sev_at z n1 w1 _ (Below.refl _ _)).mono ?_
  rintro e w2 ⟨v2, rfl, ho2, hb2⟩
  obtain ⟨A2, c2, rfl, hr2⟩ := own_reads ho2
  have HO2 := Lib.hid (row_on HO.out hb2)
  have HR2 := Lib.hid hr2
  have HB2 := Lib.hid (HB.out.trans (hb2.mono HB.out.size))
  have HSZ := Lib.hid (Nat.le_trans HBZ.out hb2.size)
  have hl2 : (sev z).length ≤ 100 := by have := sev_len10 (n := z) (by omega); omega
  clear ho2 hb2 hr2 y0 y1 y2 y3 y4 HO HB
  go_wp2_with (at_builtin; go_loud (refine print_append_row (w0 := w2) ((w.alloc (.cells #[.int .i64 num, .int .i64 0, .int .u64 (z : Int), .slice ba bl bc, .slice ia il ic] 38)).heap.size) rfl (.tmp 19) (.tmp 22) 23 5 .u8 1 rfl Try.underlying23 info5 (by decide) (.slice A1 q1 c1) (sev m) (sev z) A2 (sev z).length c2 rfl rfl HO2.out HR2.out (Below.refl _ _) HSZ.out (by omega) ?_); intro v3 w3 HO3 HB3 _ _; have HP := Lib.hid (own_weaken HO3 (wa_below w _).size); have HPB := Lib.hid (HB2.out.trans (HB3.mono (by simp))); clear HO3 HB3)
  go_returns
  exact ⟨_, rfl, HP.out, HPB.out⟩

set_option maxHeartbeats 1000000 in
set_option maxRecDepth 100000 in
theorem wr_1 (w : World) (num n : Int) (h1 : 1 ≤ num) (h2 : num ≤ 536870911) (n0 : 0 ≤ n) (n1 : n ≤ 18446744073709551615) (ba : Option Addr) (bl bc : Nat) (ia : Option Addr) (il ic : Nat) :
    Calls Try.prog 17 #[.agg #[.int .i64 num, .int .i64 1, .int .u64 n, .slice ba bl bc, .slice ia il ic]] w (RowPost (sev (num * 8 + 1).toNat ++ lo 8 n) w) := by
  obtain ⟨m, hm⟩ : ∃ m, (num * 8 + 1).toNat = m := ⟨_, rfl⟩
  have hor := or_tag h1 h2 (k := 1) (by omega) (by omega) hm
  have hm2 : (m : Int) ≤ 34359738367 := by omega
  have hlm := sev_len10 (n := m) (by omega)
  have HS := Lib.hid fun W (hW : Below (w.alloc (.cells #[.int .i64 num, .int .i64 1, .int .u64 n, .slice ba bl bc, .slice ia il ic] 38)).heap.size (w.alloc (.cells #[.int .i64 num, .int .i64 1, .int .u64 n, .slice ba bl bc, .slice ia il ic] 38)) W) => sev_at m (by omega) (w.alloc (.cells #[.int .i64 num, .int .i64 1, .int .u64 n, .slice ba bl bc, .slice ia il ic] 38)) W hW
  rw [hm]
  clear hm
  go_enter Try.func17, Try.ntmps17
  go_wp2_with fail
  refine (HS.out _ (Below.refl _ _)).mono ?_
  rintro e w1 ⟨v, rfl, ho, hb⟩
  obtain ⟨y0, y1, y2, y3, y4⟩ := fbox hb
  obtain ⟨A1, q1, c1, rfl⟩ := own_any ho
  have HO := Lib.hid ho
  have HB := Lib.hid ((wa_below w _).trans (hb.mono (wa_below w _).size))
  have HBZ := Lib.hid hb.size
  clear ho hb HS hor
  go_wp2_with fail
  refine (low_at n n0 n1 8 (by decide) w1 _ (Below.refl _ _)).mono ?_
  rintro e w2 ⟨v2, rfl, ho2, hb2⟩
  obtain ⟨A2, c2, rfl, hr2⟩ := own_reads ho2
  have HO2 := Lib.hid (row_on HO.out hb2)
  have HR2 := Lib.hid hr2
  have HB2 := Lib.hid (HB.out.trans (hb2.mono HB.out.size))
  have HSZ := Lib.hid (Nat.le_trans HBZ.out hb2.size)
  have hl2 : (lo 8 n).length ≤ 100 := by rw [lo_len]; omega
  clear ho2 hb2 hr2 y0 y1 y2 y3 y4 HO HB
  go_wp2_with (at_builtin; go_loud (refine print_append_row (w0 := w2) ((w.alloc (.cells #[.int .i64 num, .int .i64 1, .int .u64 n, .slice ba bl bc, .slice ia il ic] 38)).heap.size) rfl (.tmp 26) (.tmp 29) 23 5 .u8 1 rfl Try.underlying23 info5 (by decide) (.slice A1 q1 c1) (sev m) (lo 8 n) A2 (lo 8 n).length c2 rfl rfl HO2.out HR2.out (Below.refl _ _) HSZ.out (by omega) ?_); intro v3 w3 HO3 HB3 _ _; have HP := Lib.hid (own_weaken HO3 (wa_below w _).size); have HPB := Lib.hid (HB2.out.trans (HB3.mono (by simp))); clear HO3 HB3)
  go_returns
  exact ⟨_, rfl, HP.out, HPB.out⟩

set_option maxHeartbeats 1000000 in
set_option maxRecDepth 100000 in
theorem wr_5 (w : World) (num n : Int) (h1 : 1 ≤ num) (h2 : num ≤ 536870911) (n0 : 0 ≤ n) (n1 : n ≤ 18446744073709551615) (ba : Option Addr) (bl bc : Nat) (ia : Option Addr) (il ic : Nat) :
    Calls Try.prog 17 #[.agg #[.int .i64 num, .int .i64 5, .int .u64 n, .slice ba bl bc, .slice ia il ic]] w (RowPost (sev (num * 8 + 5).toNat ++ lo 4 n) w) := by
  obtain ⟨m, hm⟩ : ∃ m, (num * 8 + 5).toNat = m := ⟨_, rfl⟩
  have hor := or_tag h1 h2 (k := 5) (by omega) (by omega) hm
  have hm2 : (m : Int) ≤ 34359738367 := by omega
  have hlm := sev_len10 (n := m) (by omega)
  have HS := Lib.hid fun W (hW : Below (w.alloc (.cells #[.int .i64 num, .int .i64 5, .int .u64 n, .slice ba bl bc, .slice ia il ic] 38)).heap.size (w.alloc (.cells #[.int .i64 num, .int .i64 5, .int .u64 n, .slice ba bl bc, .slice ia il ic] 38)) W) => sev_at m (by omega) (w.alloc (.cells #[.int .i64 num, .int .i64 5, .int .u64 n, .slice ba bl bc, .slice ia il ic] 38)) W hW
  rw [hm]
  clear hm
  go_enter Try.func17, Try.ntmps17
  go_wp2_with fail
  refine (HS.out _ (Below.refl _ _)).mono ?_
  rintro e w1 ⟨v, rfl, ho, hb⟩
  obtain ⟨y0, y1, y2, y3, y4⟩ := fbox hb
  obtain ⟨A1, q1, c1, rfl⟩ := own_any ho
  have HO := Lib.hid ho
  have HB := Lib.hid ((wa_below w _).trans (hb.mono (wa_below w _).size))
  have HBZ := Lib.hid hb.size
  clear ho hb HS hor
  go_wp2_with fail
  refine (low_at n n0 n1 4 (by decide) w1 _ (Below.refl _ _)).mono ?_
  rintro e w2 ⟨v2, rfl, ho2, hb2⟩
  obtain ⟨A2, c2, rfl, hr2⟩ := own_reads ho2
  have HO2 := Lib.hid (row_on HO.out hb2)
  have HR2 := Lib.hid hr2
  have HB2 := Lib.hid (HB.out.trans (hb2.mono HB.out.size))
  have HSZ := Lib.hid (Nat.le_trans HBZ.out hb2.size)
  have hl2 : (lo 4 n).length ≤ 100 := by rw [lo_len]; omega
  clear ho2 hb2 hr2 y0 y1 y2 y3 y4 HO HB
  go_wp2_with (at_builtin; go_loud (refine print_append_row (w0 := w2) ((w.alloc (.cells #[.int .i64 num, .int .i64 5, .int .u64 n, .slice ba bl bc, .slice ia il ic] 38)).heap.size) rfl (.tmp 65) (.tmp 68) 23 5 .u8 1 rfl Try.underlying23 info5 (by decide) (.slice A1 q1 c1) (sev m) (lo 4 n) A2 (lo 4 n).length c2 rfl rfl HO2.out HR2.out (Below.refl _ _) HSZ.out (by omega) ?_); intro v3 w3 HO3 HB3 _ _; have HP := Lib.hid (own_weaken HO3 (wa_below w _).size); have HPB := Lib.hid (HB2.out.trans (HB3.mono (by simp))); clear HO3 HB3)
  go_returns
  exact ⟨_, rfl, HP.out, HPB.out⟩

end Go.Proofs.Ytobponaenabpgaa.Rd
