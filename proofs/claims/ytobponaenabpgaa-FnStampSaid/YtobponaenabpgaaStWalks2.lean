/- Contracts of the timestamps' functions. -/
import Derived.Test.YtobponaenabpgaaRows
import Derived.Test.YtobponaenabpgaaStWalks
import Derived.WalkKit
import Derived.ProofKit
import Derived.OpenShut
import Derived.Outline
import Derived.BigQuiet
import Derived.Deep.QuietTactic
import Derived.Below
import Derived.Lib.Hide
import Derived.RegionTactic
import Derived.Handy
import Derived.WalkLawsBesides
import Derived.Laws.BitsAllLaws
import Derived.Deep.RegionWith
namespace Go.Proofs.Ytobponaenabpgaa.St
open Go.ChangeShapes Go.WideShapes Go.ChangeAt Go.RowKit
set_option linter.unusedVariables false

/-- Where seconds are a timestamp's. -/
def ProtoYes (s n : Int) (w : World) (e : Ending) (w' : World) : Prop :=
  ∃ b, w.heap.size ≤ b ∧ b < w'.heap.size ∧ e = .returned (.tuple #[.pointer (some ⟨b, 0, none⟩), .nilIface]) ∧ w'.cell? ⟨b, 0, none⟩ = some (.int .i64 s) ∧ w'.cell? ⟨b, 1, none⟩ = some (.int .i32 n) ∧ Below w.heap.size w w'
def ProtoNo (w : World) (e : Ending) (w' : World) : Prop :=
  ∃ b, e = .returned (.tuple #[.pointer none, .iface 122 (.pointer (some ⟨b, 0, none⟩))]) ∧ Below w.heap.size w w'

set_option maxHeartbeats 1000000 in
theorem proto_yes (s n : Int) (w : World) (h0 : 0 ≤ n) (h1 : n < 1000000000) (h2 : -62135596800 ≤ s) (h3 : s < 253402300800) :
    Calls Try.prog 69 #[.agg #[.int .u64 n, .int .i64 (s + 62135596800), .pointer none]] w (ProtoYes s n w) := by
  have Hs := Lib.hid fun W => sub_any n (s + 62135596800) W h0 h1 (by omega) (by omega)
  have Hz := Lib.hid fun W => unix_any s 0 W (by omega) (by omega) (by omega) (by omega)
  have Hx := Lib.hid fun W => tunix_s n s W h0 h1 (by omega) (by omega)
  unfold T3 at *
  go_enter Try.func69, Try.ntmps69
  go_wp2_with fail
  refine (Hx.out _).mono ?_
  rintro e w1 ⟨rfl, hb1⟩
  have k0 : w1.cell? ⟨w.heap.size, 0, none⟩ = some (.int .u64 n) := by rw [hb1.cell (by simp)]; simp
  have k1 : w1.cell? ⟨w.heap.size, 1, none⟩ = some (.int .i64 (s + 62135596800)) := by rw [hb1.cell (by simp)]; simp
  have k2 : w1.cell? ⟨w.heap.size, 2, none⟩ = some (.pointer none) := by rw [hb1.cell (by simp)]; simp
  have hs1 : w.heap.size < w1.heap.size := by have := hb1.size; simp at this; omega
  go_wp2_with fail
  go_region_with (first | (go_at_call 42; refine (Hz.out _).mono ?_; rintro e2 w2 ⟨rfl, hb2⟩; have m0 := (hb2.cell (p := ⟨w.heap.size, 0, none⟩) (by simpa using hs1)).trans (by simpa using k0); have m1 := (hb2.cell (p := ⟨w.heap.size, 1, none⟩) (by simpa using hs1)).trans (by simpa using k1); have m2 := (hb2.cell (p := ⟨w.heap.size, 2, none⟩) (by simpa using hs1)).trans (by simpa using k2)) | (go_at_call 77; refine (Hs.out _).mono ?_; rintro e3 w3 ⟨rfl, hb3⟩))
  all_goals
    have B1 : Below w.heap.size w w1 := below_then (by go_grown) hb1
    have B2 : Below w.heap.size w w2 := below_then (by repeat (first | exact B1 | refine Below.drew ?_)) hb2
    have B3 : Below w.heap.size w w3 := below_then (by repeat (first | exact B2 | refine Below.drew ?_)) hb3
    have HB := Lib.hid B3
    clear B1 B2 B3
    go_wp2
    go_returns
    exact ⟨w3.heap.size, HB.out.size, by simp, rfl, by simp, by simp, HB.out.alloc HB.out.size _⟩

set_option maxHeartbeats 1000000 in
theorem proto_lo (s n : Int) (w : World) (h0 : 0 ≤ n) (h1 : n < 1000000000) (h2 : s < -62135596800) (h3 : -500000000000 < s) :
    Calls Try.prog 69 #[.agg #[.int .u64 n, .int .i64 (s + 62135596800), .pointer none]] w (ProtoNo w) := by
  have Hs := Lib.hid fun W => sub_any n (s + 62135596800) W h0 h1 (by omega) (by omega)
  have Hz := Lib.hid fun W => unix_any s 0 W (by omega) (by omega) (by omega) (by omega)
  have Hx := Lib.hid fun W => tunix_s n s W h0 h1 (by omega) (by omega)
  unfold T3 at *
  go_enter Try.func69, Try.ntmps69
  go_wp2_with fail
  refine (Hx.out _).mono ?_
  rintro e w1 ⟨rfl, hb1⟩
  have k0 : w1.cell? ⟨w.heap.size, 0, none⟩ = some (.int .u64 n) := by rw [hb1.cell (by simp)]; simp
  have k1 : w1.cell? ⟨w.heap.size, 1, none⟩ = some (.int .i64 (s + 62135596800)) := by rw [hb1.cell (by simp)]; simp
  have k2 : w1.cell? ⟨w.heap.size, 2, none⟩ = some (.pointer none) := by rw [hb1.cell (by simp)]; simp
  have hs1 : w.heap.size < w1.heap.size := by have := hb1.size; simp at this; omega
  go_wp2_with fail
  go_region_with (first | (go_at_call 42; refine (Hz.out _).mono ?_; rintro e2 w2 ⟨rfl, hb2⟩; have m0 := (hb2.cell (p := ⟨w.heap.size, 0, none⟩) (by simpa using hs1)).trans (by simpa using k0); have m1 := (hb2.cell (p := ⟨w.heap.size, 1, none⟩) (by simpa using hs1)).trans (by simpa using k1); have m2 := (hb2.cell (p := ⟨w.heap.size, 2, none⟩) (by simpa using hs1)).trans (by simpa using k2)) | (go_at_call 77; refine (Hs.out _).mono ?_; rintro e3 w3 ⟨rfl, hb3⟩))
  all_goals
    have B1 : Below w.heap.size w w1 := below_then (by go_grown) hb1
    have B2 : Below w.heap.size w w2 := below_then (by repeat (first | exact B1 | refine Below.drew ?_)) hb2
    have B3 : Below w.heap.size w w3 := below_then (by repeat (first | exact B2 | refine Below.drew ?_)) hb3
    have HB := Lib.hid B3
    clear B1 B2 B3
    go_wp2
    go_returns
    exact ⟨_, rfl, by repeat (first | exact HB.out | refine Below.alloc ?_ (by have := HB.out.size; simp; omega) _ | refine Below.drew ?_)⟩

set_option maxHeartbeats 1000000 in
theorem proto_hi (s n : Int) (w : World) (h0 : 0 ≤ n) (h1 : n < 1000000000) (h2 : 253402300800 ≤ s) (h3 : s < 500000000000) :
    Calls Try.prog 69 #[.agg #[.int .u64 n, .int .i64 (s + 62135596800), .pointer none]] w (ProtoNo w) := by
  have Hs := Lib.hid fun W => sub_any n (s + 62135596800) W h0 h1 (by omega) (by omega)
  have Hz := Lib.hid fun W => unix_any s 0 W (by omega) (by omega) (by omega) (by omega)
  have Hx := Lib.hid fun W => tunix_s n s W h0 h1 (by omega) (by omega)
  unfold T3 at *
  go_enter Try.func69, Try.ntmps69
  go_wp2_with fail
  refine (Hx.out _).mono ?_
  rintro e w1 ⟨rfl, hb1⟩
  have k0 : w1.cell? ⟨w.heap.size, 0, none⟩ = some (.int .u64 n) := by rw [hb1.cell (by simp)]; simp
  have k1 : w1.cell? ⟨w.heap.size, 1, none⟩ = some (.int .i64 (s + 62135596800)) := by rw [hb1.cell (by simp)]; simp
  have k2 : w1.cell? ⟨w.heap.size, 2, none⟩ = some (.pointer none) := by rw [hb1.cell (by simp)]; simp
  have hs1 : w.heap.size < w1.heap.size := by have := hb1.size; simp at this; omega
  go_wp2_with fail
  go_region_with (first | (go_at_call 42; refine (Hz.out _).mono ?_; rintro e2 w2 ⟨rfl, hb2⟩; have m0 := (hb2.cell (p := ⟨w.heap.size, 0, none⟩) (by simpa using hs1)).trans (by simpa using k0); have m1 := (hb2.cell (p := ⟨w.heap.size, 1, none⟩) (by simpa using hs1)).trans (by simpa using k1); have m2 := (hb2.cell (p := ⟨w.heap.size, 2, none⟩) (by simpa using hs1)).trans (by simpa using k2)) | (go_at_call 77; refine (Hs.out _).mono ?_; rintro e3 w3 ⟨rfl, hb3⟩))
  all_goals
    have B1 : Below w.heap.size w w1 := below_then (by go_grown) hb1
    have B2 : Below w.heap.size w w2 := below_then (by repeat (first | exact B1 | refine Below.drew ?_)) hb2
    have B3 : Below w.heap.size w w3 := below_then (by repeat (first | exact B2 | refine Below.drew ?_)) hb3
    have HB := Lib.hid B3
    clear B1 B2 B3
    go_wp2
    go_returns
    exact ⟨_, rfl, by repeat (first | exact HB.out | refine Below.alloc ?_ (by have := HB.out.size; simp; omega) _ | refine Below.drew ?_)⟩

end Go.Proofs.Ytobponaenabpgaa.St
