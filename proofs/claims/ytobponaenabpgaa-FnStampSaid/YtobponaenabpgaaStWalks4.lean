/- Contracts of the timestamps' functions. -/
import Derived.Test.YtobponaenabpgaaRows
import Derived.Test.YtobponaenabpgaaStWalks3
import Derived.Test.YtobponaenabpgaaLenWalks
import Derived.WalkKit
import Derived.ProofKit
import Derived.OpenShut
import Derived.Outline
import Derived.BigQuiet
import Derived.Deep.QuietTactic
import Derived.Below
import Derived.Lib.Hide
import Derived.RegionTactic
import Derived.Handy
import Derived.WalkLawsBesides
import Derived.Laws.BitsAllLaws
import Derived.Deep.RegionWith
namespace Go.Proofs.Ytobponaenabpgaa.St
open Go.ChangeShapes Go.WideShapes Go.ChangeAt Go.RowKit
set_option linter.unusedVariables false

/-- What Unix answers: some time of no place, its nanoseconds below a second. -/
def SomeTime (w : World) (e : Ending) (w' : World) : Prop := ∃ n' e', 0 ≤ n' ∧ n' < 1000000000 ∧ e = .returned (T3 n' e') ∧ Below w.heap.size w w'

theorem unix_out (s n : Int) (w : World) (h0 : n < 0 ∨ 1000000000 ≤ n) (h1 : -2147483648 ≤ n) (h1' : n ≤ 2147483647) (h2 : -1000000000000 < s) (h3 : s < 1000000000000) :
    Calls Try.prog 42 #[.int .i64 s, .int .i64 n] w (SomeTime w) := by
  have e := Ln.tdm n
  have b := Ln.tmod_bd n
  have b1 : -1000000000 < n - n.tdiv 1000000000 * 1000000000 := by omega
  have b2 : n - n.tdiv 1000000000 * 1000000000 < 1000000000 := by omega
  have b3 : -5 < n.tdiv 1000000000 := by omega
  have b4 : n.tdiv 1000000000 < 5 := by omega
  have e1 : (1000000000 ≤ n) → n.tdiv 1000000000 = n / 1000000000 := fun h => by rw [Int.tdiv_eq_ediv_of_nonneg (by omega)]
  have m1 : (1000000000 ≤ n) → 0 ≤ n - n.tdiv 1000000000 * 1000000000 := fun h => by
    have := Int.tmod_nonneg (a := n) 1000000000 (by omega); omega
  clear e b
  by_cases hn : 1000000000 ≤ n
  · have e1 := e1 hn
    have m1 := m1 hn
    rw [e1] at b1 b2 b3 b4 m1
    clear e1 h0
    go_enter Try.func42, Try.ntmps42
    go_wp2
    go_returns
    exact ⟨_, _, m1, b2, rfl, by go_grown⟩
  · clear m1 e1
    have h0 : n < 0 := by omega
    by_cases hm : n - n.tdiv 1000000000 * 1000000000 < 0
    · go_enter Try.func42, Try.ntmps42
      go_wp2
      go_returns
      exact ⟨n - n.tdiv 1000000000 * 1000000000 + 1000000000, _, by omega, by omega, rfl, by go_grown⟩
    · go_enter Try.func42, Try.ntmps42
      go_wp2
      go_returns
      exact ⟨n - n.tdiv 1000000000 * 1000000000, _, by omega, by omega, rfl, by go_grown⟩

theorem unix_some (s n : Int) (w : World) (h1 : -2147483648 ≤ n) (h1' : n ≤ 2147483647) (h2 : -1000000000000 < s) (h3 : s < 1000000000000) :
    Calls Try.prog 42 #[.int .i64 s, .int .i64 n] w (SomeTime w) := by
  by_cases h : 0 ≤ n ∧ n < 1000000000
  · refine (unix_any s n w h.1 h.2 h2 h3).mono ?_
    rintro e w1 ⟨rfl, hb⟩
    exact ⟨n, _, h.1, h.2, rfl, hb⟩
  · exact unix_out s n w (by omega) h1 h1' h2 h3

/-- The world with the two variables of timestampFromProto. -/
abbrev X2 (w : World) : World := (w.alloc (.cells #[.int .u64 0, .int .i64 0, .pointer none] 85)).alloc (.cells #[.int .u64 0, .int .i64 0, .pointer none] 85)

theorem x2_facts {w W : World} (hb : Below (w.heap.size + 2) (X2 w) W) {b : Nat} (hbs : b < w.heap.size) {s n : Int} (k0 : w.cell? ⟨b, 0, none⟩ = some (.int .i64 s)) (k1 : w.cell? ⟨b, 1, none⟩ = some (.int .i32 n)) :
    W.cell? ⟨b, 0, none⟩ = some (.int .i64 s) ∧ W.cell? ⟨b, 1, none⟩ = some (.int .i32 n) ∧
    W.cell? ⟨w.heap.size, 0, none⟩ = some (.int .u64 0) ∧ W.cell? ⟨w.heap.size, 1, none⟩ = some (.int .i64 0) ∧ W.cell? ⟨w.heap.size, 2, none⟩ = some (.pointer none) ∧
    W.cell? ⟨w.heap.size + 1, 0, none⟩ = some (.int .u64 0) ∧ W.cell? ⟨w.heap.size + 1, 1, none⟩ = some (.int .i64 0) ∧ W.cell? ⟨w.heap.size + 1, 2, none⟩ = some (.pointer none) ∧
    W.frozen? ⟨w.heap.size, 0, none⟩ = false ∧ W.frozen? ⟨w.heap.size, 1, none⟩ = false ∧ W.frozen? ⟨w.heap.size, 2, none⟩ = false ∧
    W.frozen? ⟨w.heap.size + 1, 0, none⟩ = false ∧ W.frozen? ⟨w.heap.size + 1, 1, none⟩ = false ∧ W.frozen? ⟨w.heap.size + 1, 2, none⟩ = false ∧ w.heap.size + 2 ≤ W.heap.size := by
  have hne : ¬ b = w.heap.size := by omega
  have hne' : ¬ b = w.heap.size + 1 := by omega
  refine ⟨?_, ?_, ?_, ?_, ?_, ?_, ?_, ?_, ?_, ?_, ?_, ?_, ?_, ?_, ?_⟩
  · exact (hb.cell (p := ⟨b, 0, none⟩) (by show b < w.heap.size + 2; omega)).trans ((World.cell?_alloc_lt _ _ _ (by show b < _; simp; omega)).trans ((World.cell?_alloc_lt _ _ _ (by exact hbs)).trans k0))
  · exact (hb.cell (p := ⟨b, 1, none⟩) (by show b < w.heap.size + 2; omega)).trans ((World.cell?_alloc_lt _ _ _ (by show b < _; simp; omega)).trans ((World.cell?_alloc_lt _ _ _ (by exact hbs)).trans k1))
  · rw [hb.cell (by simp)]; simp
  · rw [hb.cell (by simp)]; simp
  · rw [hb.cell (by simp)]; simp
  · rw [hb.cell (by simp)]; simp
  · rw [hb.cell (by simp)]; simp
  · rw [hb.cell (by simp)]; simp
  · rw [hb.frozen (by simp)]; simp
  · rw [hb.frozen (by simp)]; simp
  · rw [hb.frozen (by simp)]; simp
  · rw [hb.frozen (by simp)]; simp
  · rw [hb.frozen (by simp)]; simp
  · rw [hb.frozen (by simp)]; simp
  · have := hb.size; simp at this; omega

theorem valid_yes (s n : Int) (w : World) (b : Nat) (k0 : w.cell? ⟨b, 0, none⟩ = some (.int .i64 s)) (k1 : w.cell? ⟨b, 1, none⟩ = some (.int .i32 n)) (h0 : 0 ≤ n) (h1 : n < 1000000000) (h2 : -62135596800 ≤ s) (h3 : s < 253402300800) :
    Calls Try.prog 78 #[.pointer (some ⟨b, 0, none⟩)] w fun e w' => e = .returned .nilIface ∧ w = w' := by
  go_enter Try.func78, Try.ntmps78
  go_wp2
  go_ret
  exact ⟨rfl, rfl⟩

def ValidNo (w : World) (e : Ending) (w' : World) : Prop := ∃ b', e = .returned (.iface 122 (.pointer (some ⟨b', 0, none⟩))) ∧ Below w.heap.size w w'

theorem valid_lo (s n : Int) (w : World) (b : Nat) (k0 : w.cell? ⟨b, 0, none⟩ = some (.int .i64 s)) (h2 : s < -62135596800) :
    Calls Try.prog 78 #[.pointer (some ⟨b, 0, none⟩)] w (ValidNo w) := by
  go_enter Try.func78, Try.ntmps78
  go_wp2
  go_ret
  exact ⟨_, rfl, by go_grown⟩
theorem valid_hi (s n : Int) (w : World) (b : Nat) (k0 : w.cell? ⟨b, 0, none⟩ = some (.int .i64 s)) (h2 : 253402300800 ≤ s) :
    Calls Try.prog 78 #[.pointer (some ⟨b, 0, none⟩)] w (ValidNo w) := by
  go_enter Try.func78, Try.ntmps78
  go_wp2
  go_ret
  exact ⟨_, rfl, by go_grown⟩
theorem valid_neg (s n : Int) (w : World) (b : Nat) (k0 : w.cell? ⟨b, 0, none⟩ = some (.int .i64 s)) (k1 : w.cell? ⟨b, 1, none⟩ = some (.int .i32 n)) (h0 : n < 0) (h2 : -62135596800 ≤ s) (h3 : s < 253402300800) :
    Calls Try.prog 78 #[.pointer (some ⟨b, 0, none⟩)] w (ValidNo w) := by
  go_enter Try.func78, Try.ntmps78
  go_wp2
  go_ret
  exact ⟨_, rfl, by go_grown⟩
theorem valid_big (s n : Int) (w : World) (b : Nat) (k0 : w.cell? ⟨b, 0, none⟩ = some (.int .i64 s)) (k1 : w.cell? ⟨b, 1, none⟩ = some (.int .i32 n)) (h0 : 1000000000 ≤ n) (h2 : -62135596800 ≤ s) (h3 : s < 253402300800) :
    Calls Try.prog 78 #[.pointer (some ⟨b, 0, none⟩)] w (ValidNo w) := by
  go_enter Try.func78, Try.ntmps78
  go_wp2
  go_ret
  exact ⟨_, rfl, by go_grown⟩
def okTime (s n : Int) : Prop := 0 ≤ n ∧ n < 1000000000 ∧ -62135596800 ≤ s ∧ s < 253402300800
theorem valid_no (s n : Int) (w : World) (b : Nat) (k0 : w.cell? ⟨b, 0, none⟩ = some (.int .i64 s)) (k1 : w.cell? ⟨b, 1, none⟩ = some (.int .i32 n)) (h : ¬ okTime s n) :
    Calls Try.prog 78 #[.pointer (some ⟨b, 0, none⟩)] w (ValidNo w) := by
  unfold okTime at h
  by_cases h1 : s < -62135596800
  · exact valid_lo s n w b k0 h1
  by_cases h2 : 253402300800 ≤ s
  · exact valid_hi s n w b k0 h2
  by_cases h3 : n < 0
  · exact valid_neg s n w b k0 k1 h3 (by omega) (by omega)
  · exact valid_big s n w b k0 k1 (by omega) (by omega) (by omega)

set_option maxHeartbeats 1000000 in
theorem from_yes (s n : Int) (w : World) (b : Nat) (hbs : b < w.heap.size) (k0 : w.cell? ⟨b, 0, none⟩ = some (.int .i64 s)) (k1 : w.cell? ⟨b, 1, none⟩ = some (.int .i32 n)) (h0 : 0 ≤ n) (h1 : n < 1000000000) (h2 : -62135596800 ≤ s) (h3 : s < 253402300800) :
    Calls Try.prog 71 #[.pointer (some ⟨b, 0, none⟩)] w fun e w' => e = .returned (.tuple #[T3 n (s + 62135596800), .nilIface]) ∧ Below w.heap.size w w' := by
  have Hu := Lib.hid fun W => unix_any s n W h0 h1 (by omega) (by omega)
  have Hc := Lib.hid fun W => utc_any n (s + 62135596800) W h0 h1
  have hne : ¬ b = w.heap.size := by omega
  have hw : IntKind.i64.wrap n = n := IntWalk.i64_in _ (by omega)
  unfold T3 at *
  go_enter Try.func71, Try.ntmps71
  go_wp2
  go_region_with (first | (go_at_call 42; refine (Hu.out _).mono ?_; rintro e1 w1 ⟨rfl, hb1⟩; have B1 : Below (w.heap.size + 2) (X2 w) w1 := Below.trans (by repeat (first | exact Below.refl _ _ | refine Below.drew ?_)) (hb1.mono (by simp)); have HB1 := Lib.hid B1; clear hb1 B1) | (go_at_call 79; refine (Hc.out _).mono ?_; rintro e2 w2 ⟨rfl, hb2⟩; have B2 : Below (w.heap.size + 2) (X2 w) w2 := Below.trans (by repeat (first | exact HB1.out | refine Below.drew ?_)) (hb2.mono (by have := HB1.out.size; simp at this; simp; omega)); obtain ⟨f1, f2, f3, f4, f5, f6, f7, f8, f9, f10, f11, f12, f13, f14, f15⟩ := x2_facts B2 hbs k0 k1; have HB2 := Lib.hid B2; clear hb2 B2))
  all_goals
    have B : Below w.heap.size w w2 := Below.trans (by go_grown) (HB2.out.mono (by omega))
    have HB := Lib.hid B
    clear B
    go_wp2
    go_region_with (go_at_call 78; refine (valid_yes s n _ b ?_ ?_ h0 h1 h2 h3).mono ?_; (go_simp); (go_simp); rintro e3 w3 ⟨rfl, rfl⟩)
    all_goals
      go_wp2
      refine bodyPost_ret (v := .tuple #[.agg #[.int .u64 n, .int .i64 (s + 62135596800), .pointer none], .nilIface]) ?_ rfl ?_
      · simp [results, Try.results71, go_sem, f3, f4, f5]
      · refine ⟨rfl, ?_⟩
        repeat (with_reducible first | exact HB.out | refine Below.setCell ?_ (by simp) _ | refine Below.drew ?_)

set_option maxHeartbeats 1000000 in
theorem from_no (s n : Int) (w : World) (b : Nat) (hbs : b < w.heap.size) (k0 : w.cell? ⟨b, 0, none⟩ = some (.int .i64 s)) (k1 : w.cell? ⟨b, 1, none⟩ = some (.int .i32 n)) (h1 : -2147483648 ≤ n) (h1' : n ≤ 2147483647) (h2 : -1000000000000 < s) (h3 : s < 1000000000000) (h : ¬ okTime s n) :
    Calls Try.prog 71 #[.pointer (some ⟨b, 0, none⟩)] w fun e w' => ∃ n' e' b', e = .returned (.tuple #[T3 n' e', .iface 122 (.pointer (some ⟨b', 0, none⟩))]) ∧ Below w.heap.size w w' := by
  have Hu := Lib.hid fun W => unix_some s n W h1 h1' h2 h3
  have hne : ¬ b = w.heap.size := by omega
  have hw : IntKind.i64.wrap n = n := IntWalk.i64_in _ (by omega)
  have Hv := Lib.hid h
  clear h
  go_enter Try.func71, Try.ntmps71
  go_wp2
  go_region_with (first | (go_at_call 42; refine (Hu.out _).mono ?_; rintro e1 w1 ⟨n', e', g0, g1, rfl, hb1⟩; have B1 : Below (w.heap.size + 2) (X2 w) w1 := Below.trans (by repeat (first | exact Below.refl _ _ | refine Below.drew ?_)) (hb1.mono (by simp)); have HB1 := Lib.hid B1; clear hb1 B1; unfold T3) | (go_at_call 79; refine (utc_any n' e' _ g0 g1).mono ?_; rintro e2 w2 ⟨rfl, hb2⟩; unfold T3; have B2 : Below (w.heap.size + 2) (X2 w) w2 := Below.trans (by repeat (first | exact HB1.out | refine Below.drew ?_)) (hb2.mono (by have := HB1.out.size; simp at this; simp; omega)); obtain ⟨f1, f2, f3, f4, f5, f6, f7, f8, f9, f10, f11, f12, f13, f14, f15⟩ := x2_facts B2 hbs k0 k1; have HB2 := Lib.hid B2; clear hb2 B2))
  all_goals
    have B : Below w.heap.size w w2 := Below.trans (by go_grown) (HB2.out.mono (by omega))
    have HB := Lib.hid B
    clear B
    go_wp2
    go_region_with (go_at_call 78; refine (valid_no s n _ b ?_ ?_ Hv.out).mono ?_; (go_simp); (go_simp); rintro e3 w3 ⟨b', rfl, hb3⟩; have p0 : w3.cell? ⟨w.heap.size + 1, 0, none⟩ = some (.int .u64 n') := (hb3.cell (by simp; omega)).trans (by go_simp); have p1 : w3.cell? ⟨w.heap.size + 1, 1, none⟩ = some (.int .i64 e') := (hb3.cell (by simp; omega)).trans (by go_simp); have p2 : w3.cell? ⟨w.heap.size + 1, 2, none⟩ = some (.pointer none) := (hb3.cell (by simp; omega)).trans (by go_simp); have q0 : w3.cell? ⟨w.heap.size, 0, none⟩ = some (.int .u64 0) := (hb3.cell (by simp; omega)).trans (by go_simp); have q1 : w3.cell? ⟨w.heap.size, 1, none⟩ = some (.int .i64 0) := (hb3.cell (by simp; omega)).trans (by go_simp); have q2 : w3.cell? ⟨w.heap.size, 2, none⟩ = some (.pointer none) := (hb3.cell (by simp; omega)).trans (by go_simp); have r0 : w3.frozen? ⟨w.heap.size, 0, none⟩ = false := (hb3.frozen (by simp; omega)).trans (by go_simp); have r1 : w3.frozen? ⟨w.heap.size, 1, none⟩ = false := (hb3.frozen (by simp; omega)).trans (by go_simp); have r2 : w3.frozen? ⟨w.heap.size, 2, none⟩ = false := (hb3.frozen (by simp; omega)).trans (by go_simp); have B3 : Below w.heap.size w w3 := Below.trans (by repeat (with_reducible first | exact HB.out | refine Below.setCell ?_ (by simp) _ | refine Below.drew ?_)) (hb3.mono (by simp; omega)); have HB3 := Lib.hid B3; clear hb3 B3)
    all_goals
      go_wp2
      refine bodyPost_ret (v := .tuple #[.agg #[.int .u64 n', .int .i64 e', .pointer none], .iface 122 (.pointer (some ⟨b', 0, none⟩))]) ?_ rfl ?_
      · simp [results, Try.results71, go_sem, q0, q1, q2]
      · refine ⟨n', e', b', rfl, ?_⟩
        repeat (with_reducible first | exact HB3.out | refine Below.setCell ?_ (by simp) _ | refine Below.drew ?_)

end Go.Proofs.Ytobponaenabpgaa.St
