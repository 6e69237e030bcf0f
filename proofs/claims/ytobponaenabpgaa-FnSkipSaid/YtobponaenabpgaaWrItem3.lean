/- The reference's Written of bytes and texts: a nil slice. -/
import Derived.Test.YtobponaenabpgaaWrItem2
namespace Go.Proofs.Ytobponaenabpgaa.Rd
open Go.ChangeShapes Go.WideShapes Go.ChangeAt Go.RowKit Sv Go.Proofs.YtobponaenabpgaaW Go.Proofs.YtobponaenabpgaaW.PrintWords
set_option linter.unusedVariables false

section
variable {P : Program} {ops : Array Oper} {o : Oper} {a : Act} {Q : Exit → Act → World → Prop} {K : Act → World → Prop}
theorem step_append_none {W : World} (base : Nat) (hw : Region.wanted o (yielded ops a.tmps) = true) (s x : Operand)
    (ho : o.op = .call { callee := .builtin .append, args := #[s, x], argTypes := #[23, 23] }) (v : Value) (xs : List Int) (hs : a.eval s = v) (hx : a.eval x = .slice none 0 0)
    (HO : W.ownsRow base 5 1 v xs.length (nums .u8 xs)) (hp : P.underlying 23 = some (.slice 5)) (hinfo : (P.info? 5).map (fun i => (i.zero, i.size, i.bytes)) = some (some (.int .u8 0), 1, 1))
    (h : K (a.put o.dst v) W) :
    if Region.wanted o (yielded ops a.tmps) = true then Oper.wp P o a W K Q else K (a.put o.dst undef) W := by
  obtain ⟨i0, hi, hzz⟩ := Option.map_eq_some_iff.1 hinfo
  simp only [Prod.mk.injEq] at hzz
  obtain ⟨hz0, hz1, hz2⟩ := hzz
  rw [if_pos hw]
  have hr : (Builtin.append_ #[23, 23] o.type #[v, .slice none 0 0]).run P W = .ok v W := by
    rcases HO.2 with ⟨rfl, hn⟩ | ⟨g, cap, cur, rfl, _, _, hnc, _⟩
    · simp [Builtin.append_, run_underlying hp, sizeOf, typeInfo, hi, Builtin.lenOf, Builtin.firstCells]
    · simp [Builtin.append_, run_underlying hp, sizeOf, typeInfo, hi, Builtin.lenOf, Builtin.firstCells, hnc, storeCells]
  unfold Oper.wp execOp
  simp only [ho, resolve, invoke, builtin, Sem.run_bind, Sem.run_pure, Result.andThen_ok, List.map_toArray, List.map_cons, List.map_nil, hs, hx, hr]
  exact h
end

set_option maxHeartbeats 1000000 in
set_option maxRecDepth 100000 in
theorem written_nil (k : Int) (hk : k = 5 ∨ k = 6) (n : Int) (w : World) :
    Calls Try.prog 30 #[.agg #[.int .i64 k, .int .u64 n, .slice none 0 0]] w (RowPost (sev 0) w) := by
  have hA : Below w.heap.size w (w.alloc (.cells #[.int .i64 k, .int .u64 n, .slice none 0 0] 58)) := (Below.refl _ _).alloc (Nat.le_refl _) _
  have HS := Lib.hid fun W (hW : Below (w.alloc (.cells #[.int .i64 k, .int .u64 n, .slice none 0 0] 58)).heap.size (w.alloc (.cells #[.int .i64 k, .int .u64 n, .slice none 0 0] 58)) W) => sev_at 0 (by omega) (w.alloc (.cells #[.int .i64 k, .int .u64 n, .slice none 0 0] 58)) W hW
  have HM : Hid (∀ w1, Below (w.alloc (.cells #[.int .i64 k, .int .u64 n, .slice none 0 0] 58)).heap.size (w.alloc (.cells #[.int .i64 k, .int .u64 n, .slice none 0 0] 58)) w1 → w1.cell? ⟨w.heap.size, 2, none⟩ = some (.slice none 0 0) ∧ Below w.heap.size w w1) :=
    fun w1 hb => ⟨(hb.cell (p := ⟨w.heap.size, 2, none⟩) (by simp)).trans (by simp), hA.trans (hb.mono hA.size)⟩
  have HAS := Lib.hid hA.size
  have hwr : IntKind.u64.wrap 0 = 0 := by rw [IntKind.wrap_u64]; omega
  clear hA
  rcases hk with rfl | rfl
  all_goals
    go_enter Try.func30, Try.ntmps30
    go_wp2_with fail
    go_region_law (first
      | (go_simp; go_at_call 10; refine (HS.out _ (by go_grown)).mono ?_; rintro e w1 ⟨v, rfl, ho, hb⟩; obtain ⟨q2, hbw⟩ := HM.out _ hb; have HO := Lib.hid (own_weaken ho HAS.out); have HBW := Lib.hid hbw; clear ho hb hbw)
      | (refine step_append_none w.heap.size rfl (.tmp 40) (.tmp 42) rfl v (sev 0) rfl rfl HO.out Try.underlying23 info5 ?_))
    all_goals go_wp2
    all_goals go_returns
    all_goals exact ⟨_, rfl, HO.out, HBW.out⟩

end Go.Proofs.Ytobponaenabpgaa.Rd
