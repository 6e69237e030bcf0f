/- Contracts of the timestamps' functions. -/
import Derived.Test.YtobponaenabpgaaRows
import Derived.Test.YtobponaenabpgaaStWalks4
import Derived.Test.YtobponaenabpgaaLenWalks
import Derived.WalkKit
import Derived.ProofKit
import Derived.OpenShut
import Derived.Outline
import Derived.BigQuiet
import Derived.Deep.QuietTactic
import Derived.Below
import Derived.Lib.Hide
import Derived.RegionTactic
import Derived.Handy
import Derived.WalkLawsBesides
import Derived.Laws.BitsAllLaws
import Derived.Deep.RegionWith
namespace Go.Proofs.Ytobponaenabpgaa.St
open Go.ChangeShapes Go.WideShapes Go.ChangeAt Go.RowKit
set_option linter.unusedVariables false

theorem t3_facts {w W : World} {s n : Int} {c : Array Value} (hb : Below (w.heap.size + 2) ((w.alloc (.cells #[.int .u64 0, .int .i64 0, .pointer none] 85)).alloc (.cells c 115)) W) :
    W.cell? ⟨w.heap.size, 0, none⟩ = some (.int .u64 0) ∧ W.cell? ⟨w.heap.size, 1, none⟩ = some (.int .i64 0) ∧ W.cell? ⟨w.heap.size, 2, none⟩ = some (.pointer none) ∧
    W.frozen? ⟨w.heap.size, 0, none⟩ = false ∧ W.frozen? ⟨w.heap.size, 1, none⟩ = false ∧ W.frozen? ⟨w.heap.size, 2, none⟩ = false := by
  refine ⟨?_, ?_, ?_, ?_, ?_, ?_⟩
  · rw [hb.cell (by simp)]; simp
  · rw [hb.cell (by simp)]; simp
  · rw [hb.cell (by simp)]; simp
  · rw [hb.frozen (by simp)]; simp
  · rw [hb.frozen (by simp)]; simp
  · rw [hb.frozen (by simp)]; simp

set_option maxHeartbeats 1000000 in
theorem zztime_yes (s n : Int) (w : World) (h0 : 0 ≤ n) (h1 : n < 1000000000) (h2 : -62135596800 ≤ s) (h3 : s < 253402300800) :
    Calls Try.prog 43 #[.int .i64 s, .int .i32 n] w fun e w' => e = .returned (.tuple #[.agg #[.int .u64 n, .int .i64 (s + 62135596800), .pointer none], .nilIface]) ∧ Below w.heap.size w w' := by
  go_enter Try.func43, Try.ntmps43
  go_wp2_with fail
  refine (from_yes s n _ (w.heap.size + 1) (by simp) (by simp) (by simp) h0 h1 h2 h3).mono ?_
  unfold T3
  rintro e w1 ⟨rfl, hb1⟩
  have hb2 := hb1.mono (B' := w.heap.size + 2) (by simp)
  obtain ⟨f1, f2, f3, f4, f5, f6⟩ := t3_facts (s := s) (n := n) hb2
  have B : Below w.heap.size w w1 := below_then (by go_grown) hb1
  have HB := Lib.hid B
  clear hb1 hb2 B
  go_wp2
  refine bodyPost_ret (v := .tuple #[.agg #[.int .u64 n, .int .i64 (s + 62135596800), .pointer none], .nilIface]) ?_ rfl ?_
  · simp [results, Try.results43, go_sem, f1, f2, f3]
  · refine ⟨rfl, ?_⟩
    repeat (with_reducible first | exact HB.out | refine Below.setCell ?_ (by simp) _ | refine Below.drew ?_)

set_option maxHeartbeats 1000000 in
theorem zztime_no (s n : Int) (w : World) (h1 : -2147483648 ≤ n) (h1' : n ≤ 2147483647) (h2 : -1000000000000 < s) (h3 : s < 1000000000000) (h : ¬ okTime s n) :
    Calls Try.prog 43 #[.int .i64 s, .int .i32 n] w fun e w' => ∃ n' e' b', e = .returned (.tuple #[.agg #[.int .u64 n', .int .i64 e', .pointer none], .iface 122 (.pointer (some ⟨b', 0, none⟩))]) ∧ Below w.heap.size w w' := by
  have Hv := Lib.hid h
  clear h
  go_enter Try.func43, Try.ntmps43
  go_wp2_with fail
  refine (from_no s n _ (w.heap.size + 1) (by simp) (by simp) (by simp) h1 h1' h2 h3 Hv.out).mono ?_
  unfold T3
  rintro e w1 ⟨n', e', b', rfl, hb1⟩
  have hb2 := hb1.mono (B' := w.heap.size + 2) (by simp)
  obtain ⟨f1, f2, f3, f4, f5, f6⟩ := t3_facts (s := s) (n := n) hb2
  have B : Below w.heap.size w w1 := below_then (by go_grown) hb1
  have HB := Lib.hid B
  clear hb1 hb2 B
  go_wp2
  refine bodyPost_ret (v := .tuple #[.agg #[.int .u64 n', .int .i64 e', .pointer none], .iface 122 (.pointer (some ⟨b', 0, none⟩))]) ?_ rfl ?_
  · simp [results, Try.results43, go_sem, f1, f2, f3]
  · refine ⟨n', e', b', rfl, ?_⟩
    repeat (with_reducible first | exact HB.out | refine Below.setCell ?_ (by simp) _ | refine Below.drew ?_)

set_option maxHeartbeats 1000000 in
theorem moment_no (s n : Int) (w : World) (h1 : -2147483648 ≤ n) (h1' : n ≤ 2147483647) (h2 : -1000000000000 < s) (h3 : s < 1000000000000) (h : ¬ okTime s n) :
    Calls Try.prog 22 #[.int .i64 s, .int .i32 n] w fun e w' => e = .returned (.tuple #[.int .i64 0, .int .i64 0, .bool false]) ∧ Below w.heap.size w w' := by
  have Hz := Lib.hid fun W => zztime_no s n W h1 h1' h2 h3 h
  clear h
  go_enter Try.func22, Try.ntmps22
  go_wp2_with fail
  refine (Hz.out _).mono ?_
  rintro e w1 ⟨n', e', b', rfl, hb1⟩
  have HB := Lib.hid hb1
  clear hb1
  go_wp2
  go_returns
  exact ⟨rfl, by repeat (with_reducible first | exact HB.out | refine Below.setCell ?_ HB.out.size _ | refine Below.drew ?_ | refine Below.alloc ?_ HB.out.size _)⟩

set_option maxHeartbeats 1000000 in
theorem moment_yes (s n : Int) (w : World) (h0 : 0 ≤ n) (h1 : n < 1000000000) (h2 : -62135596800 ≤ s) (h3 : s < 253402300800) :
    Calls Try.prog 22 #[.int .i64 s, .int .i32 n] w fun e w' => e = .returned (.tuple #[.int .i64 s, .int .i64 n, .bool true]) ∧ Below w.heap.size w w' := by
  have Hz := Lib.hid fun W => zztime_yes s n W h0 h1 h2 h3
  have Hx := Lib.hid fun W => tunix_s n s W h0 h1 (by omega) (by omega)
  have Hn := Lib.hid fun W => nanos_any n (s + 62135596800) W h0 h1
  unfold T3 at *
  go_enter Try.func22, Try.ntmps22
  go_wp2_with fail
  refine (Hz.out _).mono ?_
  rintro e w1 ⟨rfl, hb1⟩
  have HB := Lib.hid hb1
  clear hb1
  go_wp2
  go_region_with (first | (go_at_call 44; refine (Hx.out _).mono ?_; rintro e2 w2 ⟨rfl, hb2⟩; have p0 : w2.cell? ⟨w1.heap.size, 0, none⟩ = some (.int .u64 n) := (hb2.cell (by show w1.heap.size < _; first | omega | (simp; done) | (simp; omega))).trans (by first | assumption | go_simp); have p1 : w2.cell? ⟨w1.heap.size, 1, none⟩ = some (.int .i64 (s + 62135596800)) := (hb2.cell (by show w1.heap.size < _; first | omega | (simp; done) | (simp; omega))).trans (by first | assumption | go_simp); have p2 : w2.cell? ⟨w1.heap.size, 2, none⟩ = some (.pointer none) := (hb2.cell (by show w1.heap.size < _; first | omega | (simp; done) | (simp; omega))).trans (by first | assumption | go_simp); have zp : w1.heap.size < w2.heap.size := by have := hb2.size; (try simp at this); omega) | (go_at_call 45; refine (Hn.out _).mono ?_; rintro e3 w3 ⟨rfl, hb3⟩; have q0 : w3.cell? ⟨w1.heap.size, 0, none⟩ = some (.int .u64 n) := (hb3.cell (by show w1.heap.size < _; first | omega | (simp; done) | (simp; omega))).trans (by first | assumption | go_simp); have q1 : w3.cell? ⟨w1.heap.size, 1, none⟩ = some (.int .i64 (s + 62135596800)) := (hb3.cell (by show w1.heap.size < _; first | omega | (simp; done) | (simp; omega))).trans (by first | assumption | go_simp); have q2 : w3.cell? ⟨w1.heap.size, 2, none⟩ = some (.pointer none) := (hb3.cell (by show w1.heap.size < _; first | omega | (simp; done) | (simp; omega))).trans (by first | assumption | go_simp); have zq : w1.heap.size < w3.heap.size := by have := hb3.size; (try simp at this); omega))
  all_goals
    go_wp2
    go_returns
    refine ⟨rfl, ?_⟩
    first
      | exact below_then (by repeat (with_reducible first | exact below_then (HB.out.alloc HB.out.size _).drew hb2 | refine Below.drew ?_)) hb3
      | exact below_then (by repeat (with_reducible first | exact below_then (HB.out.alloc HB.out.size _).drew hb3 | refine Below.drew ?_)) hb2

end Go.Proofs.Ytobponaenabpgaa.St
