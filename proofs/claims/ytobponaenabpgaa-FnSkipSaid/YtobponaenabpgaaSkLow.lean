/- Small parts of the law FnSkip: bytes of a tree, Clone of a long row of bytes, the thin package's Skip. -/
import Derived.Test.YtobponaenabpgaaSkAid
import Derived.BigQuiet
namespace Go.Proofs.Ytobponaenabpgaa.Rd
open Go.ChangeShapes Go.WideShapes Go.ChangeAt Go.RowKit Sv Go.Proofs.YtobponaenabpgaaW Go.Proofs.YtobponaenabpgaaW.PrintWords
set_option linter.unusedVariables false

section
variable {P : Program} {ops : Array Oper} {o : Oper} {a : Act} {Q : Exit → Act → World → Prop} {K : Act → World → Prop}
/-- append of a slice as one step of a region that draws its order (the law's lines after the printed step_append_cells and print_append_row). -/
theorem step_append_big {w0 W : World} (base : Nat) (hw : Region.wanted o (yielded ops a.tmps) = true) (s x : Operand)
    (ho : o.op = .call { callee := .builtin .append, args := #[s, x], argTypes := #[23, 23] }) (v : Value) (xs ys : List Int) (ad : Addr) (m c : Nat) (hs : a.eval s = v) (hx : a.eval x = .slice (some ad) m c)
    (HO : W.ownsRow base 5 1 v xs.length (nums .u8 xs)) (HR : ReadsInt W .u8 (some ad) m ys) (HB : Below base w0 W) (hbase : base ≤ W.heap.size) (hl : xs.length + m ≤ 1000000000)
    (hp : P.underlying 23 = some (.slice 5)) (hinfo : (P.info? 5).map (fun i => (i.zero, i.size, i.bytes)) = some (some (.int .u8 0), 1, 1))
    (h : ∀ v1 w1, w1.ownsRow base 5 1 v1 (xs ++ ys).length (nums .u8 (xs ++ ys)) → Below base w0 w1 → W.grownBy w1 v.ownBlock → K (a.put o.dst v1) w1) :
    if Region.wanted o (yielded ops a.tmps) = true then Oper.wp P o a W K Q else K (a.put o.dst undef) W := by
  obtain ⟨i0, hi, hzz⟩ := Option.map_eq_some_iff.1 hinfo
  simp only [Prod.mk.injEq] at hzz
  obtain ⟨hz0, hz1, hz2⟩ := hzz
  have hm : ys.length = m := HR.1
  rw [if_pos hw]
  have hcells : ∀ j u, (nums .u8 ys)[j]? = some u → W.cell? (ad.add j) = some u := by
    intro j u hu
    have hj : j < ys.length := by
      rcases Nat.lt_or_ge j ys.length with h | h
      · exact h
      · simp [nums, List.getElem?_eq_none h] at hu
    obtain ⟨ad', h', hc⟩ := HR.2.2 (by omega)
    injection h' with h'
    subst h'
    have := hc j (by omega)
    simp [nums, List.getElem?_eq_getElem hj] at hu
    subst hu
    rw [this]
    simp [List.getD_eq_getElem?_getD, List.getElem?_eq_getElem hj]
  obtain ⟨v1, w1, hr, h2, h3, _, h5⟩ := run_append_own_at (P := P) W base 23 o.type 5 i0 (.int .u8 0) 1 1 hp hi hz0 hz1 hz2 rfl (by omega) v xs.length (nums .u8 xs) HO ad m c (nums .u8 ys) (by simp [nums, hm]) hcells
    (by intro u hu; simp only [nums, List.mem_map] at hu; obtain ⟨q, _, rfl⟩ := hu; rfl) (by simp only [maxLen]; omega) (by omega) hbase
  unfold Oper.wp execOp
  simp only [ho, resolve, invoke, builtin, Sem.run_bind, Sem.run_pure, Result.andThen_ok, List.map_toArray, List.map_cons, List.map_nil, hs, hx, hr]
  exact h v1 w1 (by simpa [nums, hm] using h2) (HB.grown h3 hbase (own_base HO)) h3
end

theorem loT_bytes : ∀ (k : Nat) (x : Int), Bytes8 (lo k x)
  | 0, x => fun y hy => by simp [lo] at hy
  | k + 1, x => fun y hy => by
    simp only [lo, List.mem_cons] at hy
    rcases hy with rfl | hy
    · omega
    · exact loT_bytes k _ y hy

theorem bytesT_append {a b : List Int} (ha : Bytes8 a) (hb : Bytes8 b) : Bytes8 (a ++ b) := fun x hx => by
  rcases List.mem_append.1 hx with h | h
  · exact ha x h
  · exact hb x h

theorem body_bytes {t : Tr} {inner : List Int} (hi : Bytes8 inner) (hb : Bytes8 t.bytes) : Bytes8 (bodyT inner t) := by
  unfold bodyT
  split
  · exact sev_bytes _
  · split
    · exact loT_bytes _ _
    · split
      · exact bytesT_append (sev_bytes _) hb
      · split
        · exact bytesT_append hi (sev_bytes _)
        · exact loT_bytes _ _

theorem enc_bytes {p : Nat → Prop} {w : World} : ∀ (d : Nat) {h : Nat} {t : Tr}, OkT p w h t → Bytes8 (encT d t)
  | 0, h, t, ho => bytesT_append (sev_bytes _) (body_bytes (fun x hx => by simp at hx) ho.own.b8)
  | d + 1, 0, t, ho => ho.elim
  | d + 1, h + 1, t, ho => by
    refine bytesT_append (sev_bytes _) (body_bytes (fun x hx => ?_) ho.1.b8)
    obtain ⟨y, hy, hxy⟩ := List.mem_flatMap.1 hx
    exact enc_bytes d (ho.2 y hy) x hxy

theorem enc_pos (d : Nat) (t : Tr) : 0 < (encT d t).length := by
  obtain ⟨r, e⟩ := enc_head d t
  have := sev_pos (t.num * 8 + t.kind).toNat
  rw [e, List.length_append]
  omega

theorem clone_big (ad : Addr) (cap : Nat) (l : List Int) (hl : l.length ≤ 1000000000) (w : World) (h : Holds8 w (some ad) l) : Calls Try.prog 19 #[.slice (some ad) l.length cap] w (ClonePost l w) := by
  have k1 := fun (w : World) (a : Option Addr) (l c : Nat) => Lib.run_eql_slice_nil (P := Try.prog) w 23 5 a l c 0 0 Try.underlying23
  have hA : Below w.heap.size w (w.alloc (.cells #[] 5)) := (Below.refl _ _).alloc (Nat.le_refl _) _
  have HR := Lib.hid (reads_holds (holds_below h hA))
  have HO := Lib.hid (own_lit w w.heap.size 5 .u8 [] (Nat.le_refl _) (by simp))
  have HB := Lib.hid hA
  clear h hA
  go_enter Try.func19, Try.ntmps19
  go_wp2_with (at_builtin; refine print_append_row (w0 := w) w.heap.size rfl (.tmp 5) (.tmp 6) 23 5 .u8 1 rfl Try.underlying23 info5 (by decide) (.slice (some ⟨w.heap.size, 0, none⟩) 0 0) [] l (some ad) l.length cap rfl rfl HO.out HR.out HB.out HB.out.size (by simp; omega) ?_; intro v1 w1 HO1 HB1 _ _; have HP := Lib.hid HO1; have HBB := Lib.hid HB1; clear HO1 HB1)
  go_ret
  exact ⟨_, rfl, HP.out, HBB.out⟩

/-- What the thin package's Skip answers. -/
def SkipOk (n : Nat) (w : World) (e : Ending) (w' : World) : Prop := e = .returned (.tuple #[.int .i64 n, .bool true]) ∧ Below w.heap.size w w'

theorem skip_impl (w : World) (g off c n N : Nat) (h : ∀ W, Below w.heap.size w W → Calls Try.prog 40 #[.slice (some ⟨g, off, none⟩) n c] W (SkipIs N W)) : Calls Try.prog 18 #[.slice (some ⟨g, off, none⟩) n c] w (SkipOk N w) := by
  have H := Lib.hid h
  clear h
  go_enter Try.func18, Try.ntmps18
  go_wp2_with fail
  refine (H.out _ (Below.refl _ _)).mono ?_
  rintro e w1 ⟨rfl, rfl⟩
  go_wp2_with fail
  go_quiet (fail)
  go_wp2
  go_returns
  exact ⟨rfl, below_drewN (Below.refl _ _) _⟩

end Go.Proofs.Ytobponaenabpgaa.Rd
