/- The buffer's reading of a number by sevens, its fast way: each length by itself. -/
import Derived.Test.YtobponaenabpgaaRdVar
import Derived.ScopeJumps
namespace Go.Proofs.Ytobponaenabpgaa.Rd
open Go.ChangeShapes Go.WideShapes Go.ChangeAt Go.RowKit Sv Go.Proofs.YtobponaenabpgaaW Go.Proofs.YtobponaenabpgaaW.PrintWords
set_option linter.unusedVariables false

theorem ret_num {a b : Int} (h : a = b) : Ending.returned (.tuple #[.int .u64 a, .nilIface]) = .returned (.tuple #[.int .u64 b, .nilIface]) := by rw [h]

/-- A scope out of which the run jumps once, on to a label further down. -/
theorem wp_scope_on {P : Program} {a : Act} {w : World} {Q : Exit → Act → World → Prop} {c rest : Code} (l : Nat) (hf : findLabel c l = some rest)
    (h : c.wp P (Exit.jump l (fun a w => rest.wp P (Exit.jump l (fun _ _ => False) Q) a w) Q) a w) : (Code.scope c).wp P Q a w :=
  wp_scope_jumps l (fun a w => rest.wp P (Exit.jump l (fun _ _ => False) Q) a w) (fun _ _ => 0) hf h
    (fun a w hJ => Code.wp_mono (fun e a' w' hq => by
      cases e with
      | goto l' => exact hq.2.elim
      | normal => exact hq
      | exit id => exact hq
      | ret => exact hq
      | panic ch => exact hq
      | outgrown => exact hq) hJ)

set_option maxRecDepth 100000 in
/-- Nothing is left. -/
theorem var_end (w : World) (B : Nat) (A : Option Addr) (cap n : Nat) (hn : n ≤ 100000) (c0 : w.cell? ⟨B, 0, none⟩ = some (.slice A n cap)) (c1 : w.cell? ⟨B, 1, none⟩ = some (.int .i64 n)) :
    Calls Try.prog 47 #[.pointer (some ⟨B, 0, none⟩)] w (ErrPost w) := by
  go_enter Try.func47, Try.ntmps47
  go_wp2
  go_step3
  go_wp2
  rw [Exit.noGoto_ret]
  go_returns
  exact ⟨_, _, rfl, rfl⟩

set_option maxRecDepth 100000 in
/-- One byte. -/
theorem var_one (w : World) (B g : Nat) (cap n i : Nat) (hn : n ≤ 100000) (hi : i < n) (hcap : n ≤ cap) (c0 : w.cell? ⟨B, 0, none⟩ = some (.slice (some ⟨g, 0, none⟩) n cap)) (c1 : w.cell? ⟨B, 1, none⟩ = some (.int .i64 i)) (f1 : w.frozen? ⟨B, 1, none⟩ = false)
    (x0 : Int) (h0 : 0 ≤ x0) (h0' : x0 < 128) (hne : ¬ g = B) (e0 : w.cell? ⟨g, i, none⟩ = some (.int .u8 x0)) :
    Calls Try.prog 47 #[.pointer (some ⟨B, 0, none⟩)] w fun e w' => e = .returned (.tuple #[.int .u64 x0, .nilIface]) ∧ moved w B (i + 1) = w' := by
  go_enter Try.func47, Try.ntmps47
  go_wp2
  go_step3
  go_wp2
  rw [Exit.noGoto_ret]
  go_returns
  exact ⟨rfl, moved_eq w B _ _ (by omega)⟩

set_option maxRecDepth 100000 in
/-- Fewer than ten bytes are left: the slow way. -/
theorem var_slow (Q : Ending → World → Prop) (w : World) (B g : Nat) (cap n i : Nat) (hn : n ≤ 100000) (hi : i < n) (hs : n < i + 10) (hcap : n ≤ cap) (c0 : w.cell? ⟨B, 0, none⟩ = some (.slice (some ⟨g, 0, none⟩) n cap)) (c1 : w.cell? ⟨B, 1, none⟩ = some (.int .i64 i))
    (x0 : Int) (h0 : 128 ≤ x0) (h0' : x0 < 256) (e0 : w.cell? ⟨g, i, none⟩ = some (.int .u8 x0))
    (hQ : Calls Try.prog 74 #[.pointer (some ⟨B, 0, none⟩)] w fun e w' => ∃ x er, e = .returned (.tuple #[.int .u64 x, er]) ∧ Q (.returned (.tuple #[.int .u64 x, er])) w') :
    Calls Try.prog 47 #[.pointer (some ⟨B, 0, none⟩)] w Q := by
  have HQ := Lib.hid hQ
  clear hQ
  go_enter Try.func47, Try.ntmps47
  go_wp2
  go_step3
  go_wp2_with fail
  refine HQ.out.mono ?_
  rintro e w1 ⟨x, er, rfl, hq⟩
  have HH := Lib.hid hq
  clear hq
  go_wp2
  exact HH.out

set_option maxRecDepth 100000 in
set_option maxHeartbeats 1000000 in
theorem var_1 (w : World) (B g : Nat) (cap n i : Nat) (hn : n ≤ 100000) (hi : i + 10 ≤ n) (hcap : n ≤ cap) (c0 : w.cell? ⟨B, 0, none⟩ = some (.slice (some ⟨g, 0, none⟩) n cap)) (c1 : w.cell? ⟨B, 1, none⟩ = some (.int .i64 i)) (f1 : w.frozen? ⟨B, 1, none⟩ = false)
    (x0 x1 : Int) (h0 : 128 ≤ x0) (h0' : x0 < 256) (h1 : 0 ≤ x1) (h1' : x1 < 128) 
    (e0 : w.cell? ⟨g, i, none⟩ = some (.int .u8 x0)) (e1 : w.cell? ⟨g, i + 1, none⟩ = some (.int .u8 x1)) 
    (z1 : bits .and .u64 x1 128 = 0) :
    Calls Try.prog 47 #[.pointer (some ⟨B, 0, none⟩)] w fun e w' => e = .returned (.tuple #[.int .u64 ((x0 - 128) * 1 + x1 * 128), .nilIface]) ∧ moved w B (i + 2) = w' := by
  go_enter Try.func47, Try.ntmps47
  go_wp2
  refine wp_scope_on 0 rfl ?_
  go_wp2
  go_step3
  refine ⟨rfl, ?_⟩
  go_wp2
  simp only [Exit.jump]
  go_returns
  exact ⟨ret_num (by omega), moved_eq w B _ _ (by omega)⟩

set_option maxRecDepth 100000 in
set_option maxHeartbeats 1000000 in
theorem var_2 (w : World) (B g : Nat) (cap n i : Nat) (hn : n ≤ 100000) (hi : i + 10 ≤ n) (hcap : n ≤ cap) (c0 : w.cell? ⟨B, 0, none⟩ = some (.slice (some ⟨g, 0, none⟩) n cap)) (c1 : w.cell? ⟨B, 1, none⟩ = some (.int .i64 i)) (f1 : w.frozen? ⟨B, 1, none⟩ = false)
    (x0 x1 x2 : Int) (h0 : 128 ≤ x0) (h0' : x0 < 256) (h1 : 128 ≤ x1) (h1' : x1 < 256) (h2 : 0 ≤ x2) (h2' : x2 < 128) 
    (e0 : w.cell? ⟨g, i, none⟩ = some (.int .u8 x0)) (e1 : w.cell? ⟨g, i + 1, none⟩ = some (.int .u8 x1)) (e2 : w.cell? ⟨g, i + 2, none⟩ = some (.int .u8 x2)) 
    (z1 : bits .and .u64 x1 128 = 128) (z2 : bits .and .u64 x2 128 = 0) :
    Calls Try.prog 47 #[.pointer (some ⟨B, 0, none⟩)] w fun e w' => e = .returned (.tuple #[.int .u64 ((x0 - 128) * 1 + (x1 - 128) * 128 + x2 * 16384), .nilIface]) ∧ moved w B (i + 3) = w' := by
  go_enter Try.func47, Try.ntmps47
  go_wp2
  refine wp_scope_on 0 rfl ?_
  go_wp2
  go_step3
  refine ⟨rfl, ?_⟩
  go_wp2
  simp only [Exit.jump]
  go_returns
  exact ⟨ret_num (by omega), moved_eq w B _ _ (by omega)⟩

set_option maxRecDepth 100000 in
set_option maxHeartbeats 1000000 in
theorem var_3 (w : World) (B g : Nat) (cap n i : Nat) (hn : n ≤ 100000) (hi : i + 10 ≤ n) (hcap : n ≤ cap) (c0 : w.cell? ⟨B, 0, none⟩ = some (.slice (some ⟨g, 0, none⟩) n cap)) (c1 : w.cell? ⟨B, 1, none⟩ = some (.int .i64 i)) (f1 : w.frozen? ⟨B, 1, none⟩ = false)
    (x0 x1 x2 x3 : Int) (h0 : 128 ≤ x0) (h0' : x0 < 256) (h1 : 128 ≤ x1) (h1' : x1 < 256) (h2 : 128 ≤ x2) (h2' : x2 < 256) (h3 : 0 ≤ x3) (h3' : x3 < 128) 
    (e0 : w.cell? ⟨g, i, none⟩ = some (.int .u8 x0)) (e1 : w.cell? ⟨g, i + 1, none⟩ = some (.int .u8 x1)) (e2 : w.cell? ⟨g, i + 2, none⟩ = some (.int .u8 x2)) (e3 : w.cell? ⟨g, i + 3, none⟩ = some (.int .u8 x3)) 
    (z1 : bits .and .u64 x1 128 = 128) (z2 : bits .and .u64 x2 128 = 128) (z3 : bits .and .u64 x3 128 = 0) :
    Calls Try.prog 47 #[.pointer (some ⟨B, 0, none⟩)] w fun e w' => e = .returned (.tuple #[.int .u64 ((x0 - 128) * 1 + (x1 - 128) * 128 + (x2 - 128) * 16384 + x3 * 2097152), .nilIface]) ∧ moved w B (i + 4) = w' := by
  go_enter Try.func47, Try.ntmps47
  go_wp2
  refine wp_scope_on 0 rfl ?_
  go_wp2
  go_step3
  refine ⟨rfl, ?_⟩
  go_wp2
  simp only [Exit.jump]
  go_returns
  exact ⟨ret_num (by omega), moved_eq w B _ _ (by omega)⟩

set_option maxRecDepth 100000 in
set_option maxHeartbeats 1000000 in
theorem var_4 (w : World) (B g : Nat) (cap n i : Nat) (hn : n ≤ 100000) (hi : i + 10 ≤ n) (hcap : n ≤ cap) (c0 : w.cell? ⟨B, 0, none⟩ = some (.slice (some ⟨g, 0, none⟩) n cap)) (c1 : w.cell? ⟨B, 1, none⟩ = some (.int .i64 i)) (f1 : w.frozen? ⟨B, 1, none⟩ = false)
    (x0 x1 x2 x3 x4 : Int) (h0 : 128 ≤ x0) (h0' : x0 < 256) (h1 : 128 ≤ x1) (h1' : x1 < 256) (h2 : 128 ≤ x2) (h2' : x2 < 256) (h3 : 128 ≤ x3) (h3' : x3 < 256) (h4 : 0 ≤ x4) (h4' : x4 < 128) 
    (e0 : w.cell? ⟨g, i, none⟩ = some (.int .u8 x0)) (e1 : w.cell? ⟨g, i + 1, none⟩ = some (.int .u8 x1)) (e2 : w.cell? ⟨g, i + 2, none⟩ = some (.int .u8 x2)) (e3 : w.cell? ⟨g, i + 3, none⟩ = some (.int .u8 x3)) (e4 : w.cell? ⟨g, i + 4, none⟩ = some (.int .u8 x4)) 
    (z1 : bits .and .u64 x1 128 = 128) (z2 : bits .and .u64 x2 128 = 128) (z3 : bits .and .u64 x3 128 = 128) (z4 : bits .and .u64 x4 128 = 0) :
    Calls Try.prog 47 #[.pointer (some ⟨B, 0, none⟩)] w fun e w' => e = .returned (.tuple #[.int .u64 ((x0 - 128) * 1 + (x1 - 128) * 128 + (x2 - 128) * 16384 + (x3 - 128) * 2097152 + x4 * 268435456), .nilIface]) ∧ moved w B (i + 5) = w' := by
  go_enter Try.func47, Try.ntmps47
  go_wp2
  refine wp_scope_on 0 rfl ?_
  go_wp2
  go_step3
  refine ⟨rfl, ?_⟩
  go_wp2
  simp only [Exit.jump]
  go_returns
  exact ⟨ret_num (by omega), moved_eq w B _ _ (by omega)⟩

set_option maxRecDepth 100000 in
set_option maxHeartbeats 1000000 in
theorem var_5 (w : World) (B g : Nat) (cap n i : Nat) (hn : n ≤ 100000) (hi : i + 10 ≤ n) (hcap : n ≤ cap) (c0 : w.cell? ⟨B, 0, none⟩ = some (.slice (some ⟨g, 0, none⟩) n cap)) (c1 : w.cell? ⟨B, 1, none⟩ = some (.int .i64 i)) (f1 : w.frozen? ⟨B, 1, none⟩ = false)
    (x0 x1 x2 x3 x4 x5 : Int) (h0 : 128 ≤ x0) (h0' : x0 < 256) (h1 : 128 ≤ x1) (h1' : x1 < 256) (h2 : 128 ≤ x2) (h2' : x2 < 256) (h3 : 128 ≤ x3) (h3' : x3 < 256) (h4 : 128 ≤ x4) (h4' : x4 < 256) (h5 : 0 ≤ x5) (h5' : x5 < 128) 
    (e0 : w.cell? ⟨g, i, none⟩ = some (.int .u8 x0)) (e1 : w.cell? ⟨g, i + 1, none⟩ = some (.int .u8 x1)) (e2 : w.cell? ⟨g, i + 2, none⟩ = some (.int .u8 x2)) (e3 : w.cell? ⟨g, i + 3, none⟩ = some (.int .u8 x3)) (e4 : w.cell? ⟨g, i + 4, none⟩ = some (.int .u8 x4)) (e5 : w.cell? ⟨g, i + 5, none⟩ = some (.int .u8 x5)) 
    (z1 : bits .and .u64 x1 128 = 128) (z2 : bits .and .u64 x2 128 = 128) (z3 : bits .and .u64 x3 128 = 128) (z4 : bits .and .u64 x4 128 = 128) (z5 : bits .and .u64 x5 128 = 0) :
    Calls Try.prog 47 #[.pointer (some ⟨B, 0, none⟩)] w fun e w' => e = .returned (.tuple #[.int .u64 ((x0 - 128) * 1 + (x1 - 128) * 128 + (x2 - 128) * 16384 + (x3 - 128) * 2097152 + (x4 - 128) * 268435456 + x5 * 34359738368), .nilIface]) ∧ moved w B (i + 6) = w' := by
  go_enter Try.func47, Try.ntmps47
  go_wp2
  refine wp_scope_on 0 rfl ?_
  go_wp2
  go_step3
  refine ⟨rfl, ?_⟩
  go_wp2
  simp only [Exit.jump]
  go_returns
  exact ⟨ret_num (by omega), moved_eq w B _ _ (by omega)⟩

set_option maxRecDepth 100000 in
set_option maxHeartbeats 1000000 in
theorem var_6 (w : World) (B g : Nat) (cap n i : Nat) (hn : n ≤ 100000) (hi : i + 10 ≤ n) (hcap : n ≤ cap) (c0 : w.cell? ⟨B, 0, none⟩ = some (.slice (some ⟨g, 0, none⟩) n cap)) (c1 : w.cell? ⟨B, 1, none⟩ = some (.int .i64 i)) (f1 : w.frozen? ⟨B, 1, none⟩ = false)
    (x0 x1 x2 x3 x4 x5 x6 : Int) (h0 : 128 ≤ x0) (h0' : x0 < 256) (h1 : 128 ≤ x1) (h1' : x1 < 256) (h2 : 128 ≤ x2) (h2' : x2 < 256) (h3 : 128 ≤ x3) (h3' : x3 < 256) (h4 : 128 ≤ x4) (h4' : x4 < 256) (h5 : 128 ≤ x5) (h5' : x5 < 256) (h6 : 0 ≤ x6) (h6' : x6 < 128) 
    (e0 : w.cell? ⟨g, i, none⟩ = some (.int .u8 x0)) (e1 : w.cell? ⟨g, i + 1, none⟩ = some (.int .u8 x1)) (e2 : w.cell? ⟨g, i + 2, none⟩ = some (.int .u8 x2)) (e3 : w.cell? ⟨g, i + 3, none⟩ = some (.int .u8 x3)) (e4 : w.cell? ⟨g, i + 4, none⟩ = some (.int .u8 x4)) (e5 : w.cell? ⟨g, i + 5, none⟩ = some (.int .u8 x5)) (e6 : w.cell? ⟨g, i + 6, none⟩ = some (.int .u8 x6)) 
    (z1 : bits .and .u64 x1 128 = 128) (z2 : bits .and .u64 x2 128 = 128) (z3 : bits .and .u64 x3 128 = 128) (z4 : bits .and .u64 x4 128 = 128) (z5 : bits .and .u64 x5 128 = 128) (z6 : bits .and .u64 x6 128 = 0) :
    Calls Try.prog 47 #[.pointer (some ⟨B, 0, none⟩)] w fun e w' => e = .returned (.tuple #[.int .u64 ((x0 - 128) * 1 + (x1 - 128) * 128 + (x2 - 128) * 16384 + (x3 - 128) * 2097152 + (x4 - 128) * 268435456 + (x5 - 128) * 34359738368 + x6 * 4398046511104), .nilIface]) ∧ moved w B (i + 7) = w' := by
  go_enter Try.func47, Try.ntmps47
  go_wp2
  refine wp_scope_on 0 rfl ?_
  go_wp2
  go_step3
  refine ⟨rfl, ?_⟩
  go_wp2
  simp only [Exit.jump]
  go_returns
  exact ⟨ret_num (by omega), moved_eq w B _ _ (by omega)⟩

set_option maxRecDepth 100000 in
set_option maxHeartbeats 1000000 in
theorem var_7 (w : World) (B g : Nat) (cap n i : Nat) (hn : n ≤ 100000) (hi : i + 10 ≤ n) (hcap : n ≤ cap) (c0 : w.cell? ⟨B, 0, none⟩ = some (.slice (some ⟨g, 0, none⟩) n cap)) (c1 : w.cell? ⟨B, 1, none⟩ = some (.int .i64 i)) (f1 : w.frozen? ⟨B, 1, none⟩ = false)
    (x0 x1 x2 x3 x4 x5 x6 x7 : Int) (h0 : 128 ≤ x0) (h0' : x0 < 256) (h1 : 128 ≤ x1) (h1' : x1 < 256) (h2 : 128 ≤ x2) (h2' : x2 < 256) (h3 : 128 ≤ x3) (h3' : x3 < 256) (h4 : 128 ≤ x4) (h4' : x4 < 256) (h5 : 128 ≤ x5) (h5' : x5 < 256) (h6 : 128 ≤ x6) (h6' : x6 < 256) (h7 : 0 ≤ x7) (h7' : x7 < 128) 
    (e0 : w.cell? ⟨g, i, none⟩ = some (.int .u8 x0)) (e1 : w.cell? ⟨g, i + 1, none⟩ = some (.int .u8 x1)) (e2 : w.cell? ⟨g, i + 2, none⟩ = some (.int .u8 x2)) (e3 : w.cell? ⟨g, i + 3, none⟩ = some (.int .u8 x3)) (e4 : w.cell? ⟨g, i + 4, none⟩ = some (.int .u8 x4)) (e5 : w.cell? ⟨g, i + 5, none⟩ = some (.int .u8 x5)) (e6 : w.cell? ⟨g, i + 6, none⟩ = some (.int .u8 x6)) (e7 : w.cell? ⟨g, i + 7, none⟩ = some (.int .u8 x7)) 
    (z1 : bits .and .u64 x1 128 = 128) (z2 : bits .and .u64 x2 128 = 128) (z3 : bits .and .u64 x3 128 = 128) (z4 : bits .and .u64 x4 128 = 128) (z5 : bits .and .u64 x5 128 = 128) (z6 : bits .and .u64 x6 128 = 128) (z7 : bits .and .u64 x7 128 = 0) :
    Calls Try.prog 47 #[.pointer (some ⟨B, 0, none⟩)] w fun e w' => e = .returned (.tuple #[.int .u64 ((x0 - 128) * 1 + (x1 - 128) * 128 + (x2 - 128) * 16384 + (x3 - 128) * 2097152 + (x4 - 128) * 268435456 + (x5 - 128) * 34359738368 + (x6 - 128) * 4398046511104 + x7 * 562949953421312), .nilIface]) ∧ moved w B (i + 8) = w' := by
  go_enter Try.func47, Try.ntmps47
  go_wp2
  refine wp_scope_on 0 rfl ?_
  go_wp2
  go_step3
  refine ⟨rfl, ?_⟩
  go_wp2
  simp only [Exit.jump]
  go_returns
  exact ⟨ret_num (by omega), moved_eq w B _ _ (by omega)⟩

set_option maxRecDepth 100000 in
set_option maxHeartbeats 1000000 in
theorem var_8 (w : World) (B g : Nat) (cap n i : Nat) (hn : n ≤ 100000) (hi : i + 10 ≤ n) (hcap : n ≤ cap) (c0 : w.cell? ⟨B, 0, none⟩ = some (.slice (some ⟨g, 0, none⟩) n cap)) (c1 : w.cell? ⟨B, 1, none⟩ = some (.int .i64 i)) (f1 : w.frozen? ⟨B, 1, none⟩ = false)
    (x0 x1 x2 x3 x4 x5 x6 x7 x8 : Int) (h0 : 128 ≤ x0) (h0' : x0 < 256) (h1 : 128 ≤ x1) (h1' : x1 < 256) (h2 : 128 ≤ x2) (h2' : x2 < 256) (h3 : 128 ≤ x3) (h3' : x3 < 256) (h4 : 128 ≤ x4) (h4' : x4 < 256) (h5 : 128 ≤ x5) (h5' : x5 < 256) (h6 : 128 ≤ x6) (h6' : x6 < 256) (h7 : 128 ≤ x7) (h7' : x7 < 256) (h8 : 0 ≤ x8) (h8' : x8 < 128) 
    (e0 : w.cell? ⟨g, i, none⟩ = some (.int .u8 x0)) (e1 : w.cell? ⟨g, i + 1, none⟩ = some (.int .u8 x1)) (e2 : w.cell? ⟨g, i + 2, none⟩ = some (.int .u8 x2)) (e3 : w.cell? ⟨g, i + 3, none⟩ = some (.int .u8 x3)) (e4 : w.cell? ⟨g, i + 4, none⟩ = some (.int .u8 x4)) (e5 : w.cell? ⟨g, i + 5, none⟩ = some (.int .u8 x5)) (e6 : w.cell? ⟨g, i + 6, none⟩ = some (.int .u8 x6)) (e7 : w.cell? ⟨g, i + 7, none⟩ = some (.int .u8 x7)) (e8 : w.cell? ⟨g, i + 8, none⟩ = some (.int .u8 x8)) 
    (z1 : bits .and .u64 x1 128 = 128) (z2 : bits .and .u64 x2 128 = 128) (z3 : bits .and .u64 x3 128 = 128) (z4 : bits .and .u64 x4 128 = 128) (z5 : bits .and .u64 x5 128 = 128) (z6 : bits .and .u64 x6 128 = 128) (z7 : bits .and .u64 x7 128 = 128) (z8 : bits .and .u64 x8 128 = 0) :
    Calls Try.prog 47 #[.pointer (some ⟨B, 0, none⟩)] w fun e w' => e = .returned (.tuple #[.int .u64 ((x0 - 128) * 1 + (x1 - 128) * 128 + (x2 - 128) * 16384 + (x3 - 128) * 2097152 + (x4 - 128) * 268435456 + (x5 - 128) * 34359738368 + (x6 - 128) * 4398046511104 + (x7 - 128) * 562949953421312 + x8 * 72057594037927936), .nilIface]) ∧ moved w B (i + 9) = w' := by
  go_enter Try.func47, Try.ntmps47
  go_wp2
  refine wp_scope_on 0 rfl ?_
  go_wp2
  go_step3
  refine ⟨rfl, ?_⟩
  go_wp2
  simp only [Exit.jump]
  go_returns
  exact ⟨ret_num (by omega), moved_eq w B _ _ (by omega)⟩

set_option maxRecDepth 100000 in
set_option maxHeartbeats 1000000 in
theorem var_9 (w : World) (B g : Nat) (cap n i : Nat) (hn : n ≤ 100000) (hi : i + 10 ≤ n) (hcap : n ≤ cap) (c0 : w.cell? ⟨B, 0, none⟩ = some (.slice (some ⟨g, 0, none⟩) n cap)) (c1 : w.cell? ⟨B, 1, none⟩ = some (.int .i64 i)) (f1 : w.frozen? ⟨B, 1, none⟩ = false)
    (x0 x1 x2 x3 x4 x5 x6 x7 x8 x9 : Int) (h0 : 128 ≤ x0) (h0' : x0 < 256) (h1 : 128 ≤ x1) (h1' : x1 < 256) (h2 : 128 ≤ x2) (h2' : x2 < 256) (h3 : 128 ≤ x3) (h3' : x3 < 256) (h4 : 128 ≤ x4) (h4' : x4 < 256) (h5 : 128 ≤ x5) (h5' : x5 < 256) (h6 : 128 ≤ x6) (h6' : x6 < 256) (h7 : 128 ≤ x7) (h7' : x7 < 256) (h8 : 128 ≤ x8) (h8' : x8 < 256) (h9 : 0 ≤ x9) (h9' : x9 < 128) 
    (e0 : w.cell? ⟨g, i, none⟩ = some (.int .u8 x0)) (e1 : w.cell? ⟨g, i + 1, none⟩ = some (.int .u8 x1)) (e2 : w.cell? ⟨g, i + 2, none⟩ = some (.int .u8 x2)) (e3 : w.cell? ⟨g, i + 3, none⟩ = some (.int .u8 x3)) (e4 : w.cell? ⟨g, i + 4, none⟩ = some (.int .u8 x4)) (e5 : w.cell? ⟨g, i + 5, none⟩ = some (.int .u8 x5)) (e6 : w.cell? ⟨g, i + 6, none⟩ = some (.int .u8 x6)) (e7 : w.cell? ⟨g, i + 7, none⟩ = some (.int .u8 x7)) (e8 : w.cell? ⟨g, i + 8, none⟩ = some (.int .u8 x8)) (e9 : w.cell? ⟨g, i + 9, none⟩ = some (.int .u8 x9)) 
    (z1 : bits .and .u64 x1 128 = 128) (z2 : bits .and .u64 x2 128 = 128) (z3 : bits .and .u64 x3 128 = 128) (z4 : bits .and .u64 x4 128 = 128) (z5 : bits .and .u64 x5 128 = 128) (z6 : bits .and .u64 x6 128 = 128) (z7 : bits .and .u64 x7 128 = 128) (z8 : bits .and .u64 x8 128 = 128) (z9 : bits .and .u64 x9 128 = 0) :
    Calls Try.prog 47 #[.pointer (some ⟨B, 0, none⟩)] w fun e w' => e = .returned (.tuple #[.int .u64 (((x0 - 128) * 1 + (x1 - 128) * 128 + (x2 - 128) * 16384 + (x3 - 128) * 2097152 + (x4 - 128) * 268435456 + (x5 - 128) * 34359738368 + (x6 - 128) * 4398046511104 + (x7 - 128) * 562949953421312 + (x8 - 128) * 72057594037927936 + x9 * 9223372036854775808) % 18446744073709551616), .nilIface]) ∧ moved w B (i + 10) = w' := by
  go_enter Try.func47, Try.ntmps47
  go_wp2
  refine wp_scope_on 0 rfl ?_
  go_wp2
  go_step3
  refine ⟨rfl, ?_⟩
  go_wp2
  simp only [Exit.jump]
  go_returns
  exact ⟨ret_num (by simp only [IntKind.wrap_u64]; omega), moved_eq w B _ _ (by omega)⟩

set_option maxRecDepth 100000 in
set_option maxHeartbeats 1000000 in
theorem var_over (w : World) (B g : Nat) (cap n i : Nat) (hn : n ≤ 100000) (hi : i + 10 ≤ n) (hcap : n ≤ cap) (c0 : w.cell? ⟨B, 0, none⟩ = some (.slice (some ⟨g, 0, none⟩) n cap)) (c1 : w.cell? ⟨B, 1, none⟩ = some (.int .i64 i)) (f1 : w.frozen? ⟨B, 1, none⟩ = false)
    (x0 x1 x2 x3 x4 x5 x6 x7 x8 x9 : Int) (h0 : 128 ≤ x0) (h0' : x0 < 256) (h1 : 128 ≤ x1) (h1' : x1 < 256) (h2 : 128 ≤ x2) (h2' : x2 < 256) (h3 : 128 ≤ x3) (h3' : x3 < 256) (h4 : 128 ≤ x4) (h4' : x4 < 256) (h5 : 128 ≤ x5) (h5' : x5 < 256) (h6 : 128 ≤ x6) (h6' : x6 < 256) (h7 : 128 ≤ x7) (h7' : x7 < 256) (h8 : 128 ≤ x8) (h8' : x8 < 256) (h9 : 128 ≤ x9) (h9' : x9 < 256) 
    (e0 : w.cell? ⟨g, i, none⟩ = some (.int .u8 x0)) (e1 : w.cell? ⟨g, i + 1, none⟩ = some (.int .u8 x1)) (e2 : w.cell? ⟨g, i + 2, none⟩ = some (.int .u8 x2)) (e3 : w.cell? ⟨g, i + 3, none⟩ = some (.int .u8 x3)) (e4 : w.cell? ⟨g, i + 4, none⟩ = some (.int .u8 x4)) (e5 : w.cell? ⟨g, i + 5, none⟩ = some (.int .u8 x5)) (e6 : w.cell? ⟨g, i + 6, none⟩ = some (.int .u8 x6)) (e7 : w.cell? ⟨g, i + 7, none⟩ = some (.int .u8 x7)) (e8 : w.cell? ⟨g, i + 8, none⟩ = some (.int .u8 x8)) (e9 : w.cell? ⟨g, i + 9, none⟩ = some (.int .u8 x9)) 
    (z1 : bits .and .u64 x1 128 = 128) (z2 : bits .and .u64 x2 128 = 128) (z3 : bits .and .u64 x3 128 = 128) (z4 : bits .and .u64 x4 128 = 128) (z5 : bits .and .u64 x5 128 = 128) (z6 : bits .and .u64 x6 128 = 128) (z7 : bits .and .u64 x7 128 = 128) (z8 : bits .and .u64 x8 128 = 128) (z9 : bits .and .u64 x9 128 = 128) :
    Calls Try.prog 47 #[.pointer (some ⟨B, 0, none⟩)] w (ErrPost w) := by
  go_enter Try.func47, Try.ntmps47
  go_wp2
  go_step3
  go_wp2
  rw [Exit.noGoto_ret]
  go_returns
  exact ⟨_, _, rfl, rfl⟩

end Go.Proofs.Ytobponaenabpgaa.Rd
