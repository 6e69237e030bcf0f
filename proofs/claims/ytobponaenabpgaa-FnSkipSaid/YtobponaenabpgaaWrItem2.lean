/- The reference's Written of bytes and texts. -/
import Derived.Test.YtobponaenabpgaaWrItem
import Derived.Deep.AppendLies
import Derived.Deep.RegionLaw
namespace Go.Proofs.Ytobponaenabpgaa.Rd
open Go.ChangeShapes Go.WideShapes Go.ChangeAt Go.RowKit Sv Go.Proofs.YtobponaenabpgaaW Go.Proofs.YtobponaenabpgaaW.PrintWords
set_option linter.unusedVariables false

section
variable {P : Program} {ops : Array Oper} {o : Oper} {a : Act} {Q : Exit → Act → World → Prop} {K : Act → World → Prop}
/-- append of a slice as one step of a region that draws its order (the law's lines after the printed step_append_cells and print_append_row). -/
theorem step_append_row {w0 W : World} (base : Nat) (hw : Region.wanted o (yielded ops a.tmps) = true) (s x : Operand)
    (ho : o.op = .call { callee := .builtin .append, args := #[s, x], argTypes := #[23, 23] }) (v : Value) (xs ys : List Int) (ad : Addr) (m c : Nat) (hs : a.eval s = v) (hx : a.eval x = .slice (some ad) m c)
    (HO : W.ownsRow base 5 1 v xs.length (nums .u8 xs)) (HR : ReadsInt W .u8 (some ad) m ys) (HB : Below base w0 W) (hbase : base ≤ W.heap.size) (hl : xs.length + m ≤ 1000000)
    (hp : P.underlying 23 = some (.slice 5)) (hinfo : (P.info? 5).map (fun i => (i.zero, i.size, i.bytes)) = some (some (.int .u8 0), 1, 1))
    (h : ∀ v1 w1, w1.ownsRow base 5 1 v1 (xs ++ ys).length (nums .u8 (xs ++ ys)) → Below base w0 w1 → W.grownBy w1 v.ownBlock → K (a.put o.dst v1) w1) :
    if Region.wanted o (yielded ops a.tmps) = true then Oper.wp P o a W K Q else K (a.put o.dst undef) W := by
  obtain ⟨i0, hi, hzz⟩ := Option.map_eq_some_iff.1 hinfo
  simp only [Prod.mk.injEq] at hzz
  obtain ⟨hz0, hz1, hz2⟩ := hzz
  have hm : ys.length = m := HR.1
  rw [if_pos hw]
  have hcells : ∀ j u, (nums .u8 ys)[j]? = some u → W.cell? (ad.add j) = some u := by
    intro j u hu
    have hj : j < ys.length := by
      rcases Nat.lt_or_ge j ys.length with h | h
      · exact h
      · simp [nums, List.getElem?_eq_none h] at hu
    obtain ⟨ad', h', hc⟩ := HR.2.2 (by omega)
    injection h' with h'
    subst h'
    have := hc j (by omega)
    simp [nums, List.getElem?_eq_getElem hj] at hu
    subst hu
    rw [this]
    simp [List.getD_eq_getElem?_getD, List.getElem?_eq_getElem hj]
  obtain ⟨v1, w1, hr, h2, h3, _, h5⟩ := run_append_own_at (P := P) W base 23 o.type 5 i0 (.int .u8 0) 1 1 hp hi hz0 hz1 hz2 rfl (by omega) v xs.length (nums .u8 xs) HO ad m c (nums .u8 ys) (by simp [nums, hm]) hcells
    (by intro u hu; simp only [nums, List.mem_map] at hu; obtain ⟨q, _, rfl⟩ := hu; rfl) (by simp only [maxLen]; omega) (by omega) hbase
  unfold Oper.wp execOp
  simp only [ho, resolve, invoke, builtin, Sem.run_bind, Sem.run_pure, Result.andThen_ok, List.map_toArray, List.map_cons, List.map_nil, hs, hx, hr]
  exact h v1 w1 (by simpa [nums, hm] using h2) (HB.grown h3 hbase (own_base HO)) h3
end


/-- The world behind the number's call. -/
theorem raw_mid {w w1 : World} {k : Int} {n : Int} {ad : Addr} {l : List Int} {c : Nat} (h : Holds8 w (some ad) l) (hb : Below (w.alloc (.cells #[.int .i64 k, .int .u64 n, .slice (some ad) l.length c] 58)).heap.size (w.alloc (.cells #[.int .i64 k, .int .u64 n, .slice (some ad) l.length c] 58)) w1) :
    w1.cell? ⟨w.heap.size, 2, none⟩ = some (.slice (some ad) l.length c) ∧ Holds8 w1 (some ad) l ∧ Below w.heap.size w w1 := by
  have hA : Below w.heap.size w (w.alloc (.cells #[.int .i64 k, .int .u64 n, .slice (some ad) l.length c] 58)) := (Below.refl _ _).alloc (Nat.le_refl _) _
  have hW : Below w.heap.size w w1 := hA.trans (hb.mono hA.size)
  exact ⟨(hb.cell (p := ⟨w.heap.size, 2, none⟩) (by simp)).trans (by simp), holds_below h hW, hW⟩

set_option maxHeartbeats 600000 in
set_option maxRecDepth 100000 in
theorem written_raw (k : Int) (hk : k = 5 ∨ k = 6) (n : Int) (ad : Addr) (l : List Int) (c : Nat) (hl : l.length ≤ 40000) (w : World) (h : Holds8 w (some ad) l) :
    Calls Try.prog 30 #[.agg #[.int .i64 k, .int .u64 n, .slice (some ad) l.length c]] w (RowPost (sev l.length ++ l) w) := by
  have hA : Below w.heap.size w (w.alloc (.cells #[.int .i64 k, .int .u64 n, .slice (some ad) l.length c] 58)) := (Below.refl _ _).alloc (Nat.le_refl _) _
  have HS := Lib.hid fun W (hW : Below (w.alloc (.cells #[.int .i64 k, .int .u64 n, .slice (some ad) l.length c] 58)).heap.size (w.alloc (.cells #[.int .i64 k, .int .u64 n, .slice (some ad) l.length c] 58)) W) => sev_at l.length (by omega) (w.alloc (.cells #[.int .i64 k, .int .u64 n, .slice (some ad) l.length c] 58)) W hW
  have HM := Lib.hid fun w1 => raw_mid (w1 := w1) (k := k) (n := n) (c := c) h
  have HAS := Lib.hid hA.size
  have hlen := sev_len10 (n := l.length) (by omega)
  have hwr : IntKind.u64.wrap (l.length : Int) = (l.length : Int) := by rw [IntKind.wrap_u64]; omega
  clear h hA
  rcases hk with rfl | rfl
  all_goals
    go_enter Try.func30, Try.ntmps30
    go_wp2_with fail
    go_region_law (first
      | (go_simp; go_at_call 10; refine (HS.out _ (by go_grown)).mono ?_; rintro e w1 ⟨v, rfl, ho, hb⟩; obtain ⟨q2, hh, hbw⟩ := HM.out _ hb; have HO := Lib.hid (own_weaken ho HAS.out); have HR := Lib.hid (reads_holds hh); have HBW := Lib.hid hbw; clear ho hb hh hbw)
      | (go_loud (refine step_append_row (w0 := w) w.heap.size rfl (.tmp 40) (.tmp 42) rfl v (sev l.length) l ad l.length c rfl rfl HO.out HR.out HBW.out HBW.out.size (by omega) Try.underlying23 info5 ?_); intro v1 w2 HO1 HB1 _; have HP := Lib.hid HO1; have HPB := Lib.hid HB1; clear HO1 HB1))
    all_goals go_wp2
    all_goals go_returns
    all_goals exact ⟨_, rfl, HP.out, HPB.out⟩

end Go.Proofs.Ytobponaenabpgaa.Rd
