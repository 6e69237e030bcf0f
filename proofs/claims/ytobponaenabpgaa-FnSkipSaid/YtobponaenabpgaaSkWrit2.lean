/- The reference's writing of a field of bytes. -/
import Derived.Test.YtobponaenabpgaaSkWrit
import Derived.Deep.RegionHeld3
namespace Go.Proofs.Ytobponaenabpgaa.Rd
open Go.ChangeShapes Go.WideShapes Go.ChangeAt Go.RowKit Sv Go.Proofs.YtobponaenabpgaaW Go.Proofs.YtobponaenabpgaaW.PrintWords
set_option linter.unusedVariables false

theorem row_some {base : Nat} {w : World} {A : Option Addr} {m c : Nat} {l : List Int} (h : Row8 base w (.slice A m c) l) (h0 : 0 < l.length) : ∃ ad, A = some ad ∧ m = l.length := by
  rcases h.2 with ⟨h', hn⟩ | ⟨g, cap, cur, h', _⟩
  · cases h'; omega
  · cases h'; exact ⟨_, rfl, rfl⟩

theorem reads_of {base : Nat} {w : World} {A : Option Addr} {m c : Nat} {l : List Int} (h : Row8 base w (.slice A m c) l) : ReadsInt w .u8 A m l := by
  obtain ⟨A', c', e, hr⟩ := own_reads h
  cases e
  exact hr

set_option maxHeartbeats 2000000 in
set_option maxRecDepth 100000 in
theorem wr_2 (w : World) (num n : Int) (h1 : 1 ≤ num) (h2 : num ≤ 536870911) (ad : Addr) (l : List Int) (bc : Nat) (hl : l.length ≤ 200) (hh : Holds8 w (some ad) l) (ia : Option Addr) (il ic : Nat) :
    Calls Try.prog 17 #[.agg #[.int .i64 num, .int .i64 2, .int .u64 n, .slice (some ad) l.length bc, .slice ia il ic]] w (RowPost (sev (num * 8 + 2).toNat ++ (sev l.length ++ l)) w) := by
  obtain ⟨m, hm⟩ : ∃ m, (num * 8 + 2).toNat = m := ⟨_, rfl⟩
  have hor := or_tag h1 h2 (k := 2) (by omega) (by omega) hm
  have hm2 : (m : Int) ≤ 34359738367 := by omega
  have hlm := sev_len10 (n := m) (by omega)
  have hlb := sev_len10 (n := l.length) (by omega)
  have hwr : IntKind.u64.wrap (l.length : Int) = (l.length : Int) := by rw [IntKind.wrap_u64]; omega
  have HS := Lib.hid fun W (hW : Below (w.alloc (.cells #[.int .i64 num, .int .i64 2, .int .u64 n, .slice (some ad) l.length bc, .slice ia il ic] 38)).heap.size (w.alloc (.cells #[.int .i64 num, .int .i64 2, .int .u64 n, .slice (some ad) l.length bc, .slice ia il ic] 38)) W) => sev_at m (by omega) (w.alloc (.cells #[.int .i64 num, .int .i64 2, .int .u64 n, .slice (some ad) l.length bc, .slice ia il ic] 38)) W hW
  have HH := Lib.hid hh
  rw [hm]
  clear hm hh
  go_enter Try.func17, Try.ntmps17
  go_wp2_with fail
  refine (HS.out _ (Below.refl _ _)).mono ?_
  rintro e w1 ⟨v, rfl, ho, hb⟩
  obtain ⟨y0, y1, y2, y3, y4⟩ := fbox hb
  obtain ⟨A1, q1, c1, rfl⟩ := own_any ho
  have HO : Hid (Row8 (w.heap.size + 1) w1 (.slice A1 q1 c1) (sev m)) := own_weaken ho (by simp)
  have HB := Lib.hid ((wa_below w _).trans (hb.mono (wa_below w _).size))
  have HBZ : Hid (w.heap.size + 1 ≤ w1.heap.size) := by unfold Hid; have := hb.size; simpa using this
  have HY := Lib.hid y3
  have HRB := Lib.hid (reads_holds (holds_below HH.out HB.out))
  have HC := Lib.hid fun W (hW : Below w1.heap.size w1 W) => sev_at l.length (by omega) w1 W hW
  have hbz : w.heap.size < w1.heap.size := by have := HBZ.out; omega
  clear ho hb HS hor y0 y2 y4
  go_wp2_with fail
  clear y1 y3
  have y3 := HY.out
  go_region_held3 (fun w' => w'.cell? ⟨w.heap.size, 3, none⟩ = some (.slice (some ad) l.length bc))
    (first | go_keep | exact HY3.out)
    (first
      | (go_at_call 10; refine (HC.out _ ?_).mono ?_; (go_grown); rintro e w2 ⟨v2, rfl, ho2, hb2⟩; obtain ⟨A2, q2, c2, rfl⟩ := own_any ho2; obtain ⟨ad2, rfl, rfl⟩ := row_some ho2 (sev_pos _); have HO2 := Lib.hid (row_on HO.out hb2); have HR2 := Lib.hid (reads_of ho2); have HZ2 := Lib.hid (Nat.le_trans HBZ.out hb2.size); have HY3 := Lib.hid (pw_cell_below hb2 HY.out); have HRB2 := Lib.hid (HRB.out.below hb2); have HB2 := Lib.hid (HB.out.trans (hb2.mono HB.out.size)); clear ho2 hb2)
      | (refine step_append_row (w0 := w2) (w.heap.size + 1) rfl (.tmp 33) (.tmp 38) (by rfl) (.slice A1 q1 c1) (sev m) (sev l.length) ad2 (sev l.length).length c2 (by rfl) (by rfl) HO2.out HR2.out (Below.refl _ _) HZ2.out (by omega) Try.underlying23 info5 ?_; intro v3 w3 ho3 hb3 hg3; have HO3 := Lib.hid ho3; have HZ3 := Lib.hid (Nat.le_trans HZ2.out hb3.size); have HB3 := Lib.hid (HB2.out.trans (hb3.mono (by omega))); replace HY3 := Lib.hid ((hb3.cell (p := ⟨w.heap.size, 3, none⟩) (Nat.lt_succ_self _)).trans HY3.out); clear ho3 hb3 hg3)
      | (refine step_append_row (w0 := w3) (w.heap.size + 1) rfl (.tmp 39) (.tmp 41) (by rfl) v3 (sev m ++ sev l.length) l ad l.length bc (by rfl) (by rfl) HO3.out (reads_holds (holds_below HH.out HB3.out)) (Below.refl _ _) HZ3.out (by rw [List.length_append]; omega) Try.underlying23 info5 ?_; intro v4 w4 ho4 hb4 hg4; have HP := Lib.hid (own_weaken ho4 (Nat.le_succ w.heap.size)); have HPB := Lib.hid (HB3.out.trans (hb4.mono (by omega))); replace HY3 := Lib.hid ((hb4.cell (p := ⟨w.heap.size, 3, none⟩) (Nat.lt_succ_self _)).trans HY3.out); clear ho4 hb4 hg4))
  all_goals go_wp2
  all_goals go_returns
  all_goals rw [List.append_assoc] at HP
  all_goals exact ⟨_, rfl, HP.out, HPB.out⟩

set_option maxHeartbeats 2000000 in
set_option maxRecDepth 100000 in
theorem wr_2n (w : World) (num n : Int) (h1 : 1 ≤ num) (h2 : num ≤ 536870911) (ia : Option Addr) (il ic : Nat) :
    Calls Try.prog 17 #[.agg #[.int .i64 num, .int .i64 2, .int .u64 n, .slice none 0 0, .slice ia il ic]] w (RowPost (sev (num * 8 + 2).toNat ++ sev 0) w) := by
  obtain ⟨m, hm⟩ : ∃ m, (num * 8 + 2).toNat = m := ⟨_, rfl⟩
  have hor := or_tag h1 h2 (k := 2) (by omega) (by omega) hm
  have hm2 : (m : Int) ≤ 34359738367 := by omega
  have hlm := sev_len10 (n := m) (by omega)
  have hlb := sev_len10 (n := 0) (by omega)
  have hwr : IntKind.u64.wrap 0 = 0 := by rw [IntKind.wrap_u64]; omega
  have HS := Lib.hid fun W (hW : Below (w.alloc (.cells #[.int .i64 num, .int .i64 2, .int .u64 n, .slice none 0 0, .slice ia il ic] 38)).heap.size (w.alloc (.cells #[.int .i64 num, .int .i64 2, .int .u64 n, .slice none 0 0, .slice ia il ic] 38)) W) => sev_at m (by omega) (w.alloc (.cells #[.int .i64 num, .int .i64 2, .int .u64 n, .slice none 0 0, .slice ia il ic] 38)) W hW
  rw [hm]
  clear hm
  go_enter Try.func17, Try.ntmps17
  go_wp2_with fail
  refine (HS.out _ (Below.refl _ _)).mono ?_
  rintro e w1 ⟨v, rfl, ho, hb⟩
  obtain ⟨y0, y1, y2, y3, y4⟩ := fbox hb
  obtain ⟨A1, q1, c1, rfl⟩ := own_any ho
  have HO : Hid (Row8 (w.heap.size + 1) w1 (.slice A1 q1 c1) (sev m)) := own_weaken ho (by simp)
  have HB := Lib.hid ((wa_below w _).trans (hb.mono (wa_below w _).size))
  have HBZ : Hid (w.heap.size + 1 ≤ w1.heap.size) := by unfold Hid; have := hb.size; simpa using this
  have HY := Lib.hid y3
  have HC := Lib.hid fun W (hW : Below w1.heap.size w1 W) => sev_at 0 (by omega) w1 W hW
  have hbz : w.heap.size < w1.heap.size := by have := HBZ.out; omega
  clear ho hb HS hor y0 y2 y4
  go_wp2_with fail
  clear y1 y3
  have y3 := HY.out
  go_region_held3 (fun w' => w'.cell? ⟨w.heap.size, 3, none⟩ = some (.slice none 0 0))
    (first | go_keep | exact HY3.out)
    (first
      | (go_at_call 10; refine (HC.out _ ?_).mono ?_; (go_grown); rintro e w2 ⟨v2, rfl, ho2, hb2⟩; obtain ⟨A2, q2, c2, rfl⟩ := own_any ho2; obtain ⟨ad2, rfl, rfl⟩ := row_some ho2 (sev_pos _); have HO2 := Lib.hid (row_on HO.out hb2); have HR2 := Lib.hid (reads_of ho2); have HZ2 := Lib.hid (Nat.le_trans HBZ.out hb2.size); have HY3 := Lib.hid (pw_cell_below hb2 HY.out); have HB2 := Lib.hid (HB.out.trans (hb2.mono HB.out.size)); clear ho2 hb2)
      | (refine step_append_row (w0 := w2) (w.heap.size + 1) rfl (.tmp 33) (.tmp 38) (by rfl) (.slice A1 q1 c1) (sev m) (sev 0) ad2 (sev 0).length c2 (by rfl) (by rfl) HO2.out HR2.out (Below.refl _ _) HZ2.out (by omega) Try.underlying23 info5 ?_; intro v3 w3 ho3 hb3 hg3; have HO3 := Lib.hid ho3; have HZ3 := Lib.hid (Nat.le_trans HZ2.out hb3.size); have HB3 := Lib.hid (HB2.out.trans (hb3.mono (by omega))); replace HY3 := Lib.hid ((hb3.cell (p := ⟨w.heap.size, 3, none⟩) (Nat.lt_succ_self _)).trans HY3.out); clear ho3 hb3 hg3)
      | (refine step_append_none (w.heap.size + 1) rfl (.tmp 39) (.tmp 41) (by rfl) v3 (sev m ++ sev 0) (by rfl) (by rfl) HO3.out Try.underlying23 info5 ?_; have HP := Lib.hid (own_weaken HO3.out (Nat.le_succ w.heap.size))))
  all_goals go_wp2
  all_goals go_returns
  all_goals exact ⟨_, rfl, HP.out, HB3.out⟩

end Go.Proofs.Ytobponaenabpgaa.Rd
