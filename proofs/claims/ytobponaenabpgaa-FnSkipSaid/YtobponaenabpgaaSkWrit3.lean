/- The reference's writing of a group, and of any field. -/
import Derived.Test.YtobponaenabpgaaSkWrit2
import Derived.Test.YtobponaenabpgaaSkAll
namespace Go.Proofs.Ytobponaenabpgaa.Rd
open Go.ChangeShapes Go.WideShapes Go.ChangeAt Go.RowKit Sv Go.Proofs.YtobponaenabpgaaW Go.Proofs.YtobponaenabpgaaW.PrintWords
set_option linter.unusedVariables false

theorem rowT_get : ∀ (q : List Tr) (j : Nat) (hj : j < q.length) (i : Nat), i < 5 → (q.flatMap cellsT)[j * 5 + i]? = (cellsT (q[j]))[i]?
  | x :: r, 0, hj, i, hi => by rw [List.flatMap_cons, List.getElem?_append_left (by simp [cellsT]; omega)]; simp
  | x :: r, j + 1, hj, i, hi => by
    rw [List.flatMap_cons, List.getElem?_append_right (by simp [cellsT]; omega)]
    have := rowT_get r j (by simpa using hj) i hi
    simp only [List.getElem_cons_succ]
    rw [← this]
    congr 1
    simp [cellsT]
    omega

/-- One field of a row, at its plain place. -/
theorem rowT_at {w : World} {a : Option Addr} {q : List Tr} (h : 0 < q.length → ∃ ad, a = some ad ∧ ∀ j u, (q.flatMap cellsT)[j]? = some u → w.cell? (ad.add j) = some u) {j : Nat} (hj : j < q.length) :
    ∃ g off, a = some ⟨g, off, none⟩ ∧ w.cell? ⟨g, off + j * 5, none⟩ = some (.int .i64 (q[j]).num) ∧ w.cell? ⟨g, off + j * 5 + 1, none⟩ = some (.int .i64 (q[j]).kind) ∧ w.cell? ⟨g, off + j * 5 + 2, none⟩ = some (.int .u64 (q[j]).n) ∧
      w.cell? ⟨g, off + j * 5 + 3, none⟩ = some (.slice (q[j]).ba (q[j]).bytes.length (q[j]).bc) ∧ w.cell? ⟨g, off + j * 5 + 4, none⟩ = some (.slice (q[j]).ia (q[j]).ins.length (q[j]).ic) := by
  obtain ⟨ad, rfl, hc⟩ := h (by omega)
  obtain ⟨g, off, spot⟩ := ad
  have hx := hc 0 _ (by rw [show 0 = 0 * 5 + 0 from rfl, rowT_get q 0 (by omega) 0 (by omega)]; rfl)
  have hspot : spot = none := by simpa [Addr.add] using World.cell?_spot hx
  subst hspot
  refine ⟨g, off, rfl, ?_, ?_, ?_, ?_, ?_⟩
  · have := hc (j * 5 + 0) _ (by rw [rowT_get q j hj 0 (by omega)]; rfl)
    rwa [Go.WideShapes.add_plain] at this
  · have := hc (j * 5 + 1) _ (by rw [rowT_get q j hj 1 (by omega)]; rfl)
    rwa [Go.WideShapes.add_plain] at this
  · have := hc (j * 5 + 2) _ (by rw [rowT_get q j hj 2 (by omega)]; rfl)
    rwa [Go.WideShapes.add_plain] at this
  · have := hc (j * 5 + 3) _ (by rw [rowT_get q j hj 3 (by omega)]; rfl)
    rwa [Go.WideShapes.add_plain] at this
  · have := hc (j * 5 + 4) _ (by rw [rowT_get q j hj 4 (by omega)]; rfl)
    rwa [Go.WideShapes.add_plain] at this

/-- What a row leads to, kept. -/
theorem rowT_below {w w1 : World} {a : Option Addr} {q : List Tr} (h : 0 < q.length → ∃ ad, a = some ad ∧ ∀ j u, (q.flatMap cellsT)[j]? = some u → w.cell? (ad.add j) = some u) (hb : Below w.heap.size w w1) :
    0 < q.length → ∃ ad, a = some ad ∧ ∀ j u, (q.flatMap cellsT)[j]? = some u → w1.cell? (ad.add j) = some u := fun h0 => by
  obtain ⟨ad, e, hc⟩ := h h0
  exact ⟨ad, e, fun j u hu => pw_cell_below hb (hc j u hu)⟩

/-- What a group's bytes are after so many of its fields. -/
def outs (m d : Nat) (q : List Tr) (j : Nat) : List Int := sev m ++ (q.take j).flatMap (encT d)

theorem outs_next {m d : Nat} {q : List Tr} {j : Nat} (hj : j < q.length) {x : Tr} (hx : q[j] = x) : outs m d q (j + 1) = outs m d q j ++ encT d x := by
  unfold outs
  rw [List.take_succ_eq_append_getElem hj, List.flatMap_append, ← List.append_assoc, hx]
  simp

theorem outs_len {m d : Nat} {q : List Tr} (hm : (sev m).length ≤ 10) (h5 : q.length ≤ 5) (hl : ∀ x ∈ q, (encT d x).length ≤ 30000000) (j : Nat) : (outs m d q j).length ≤ 150000010 := by
  have h1 := flat_len (f := encT d) (B := 30000000) (q.take j) fun x hx => hl x (List.mem_of_mem_take hx)
  have h2 : (q.take j).length ≤ 5 := by simp; omega
  unfold outs
  rw [List.length_append]
  omega

set_option maxHeartbeats 4000000 in
set_option maxRecDepth 100000 in
theorem wr_3 (w : World) (num n : Int) (h1 : 1 ≤ num) (h2 : num ≤ 536870911) (ba : Option Addr) (bl bc : Nat) (ia : Option Addr) (q : List Tr) (ic d : Nat) (h5 : q.length ≤ 5) (hl : ∀ x ∈ q, (encT d x).length ≤ 30000000)
    (hr : 0 < q.length → ∃ ad, ia = some ad ∧ ∀ j u, (q.flatMap cellsT)[j]? = some u → w.cell? (ad.add j) = some u)
    (hIH : ∀ x ∈ q, ∀ W, Below w.heap.size w W → Calls Try.prog 17 #[.agg #[.int .i64 x.num, .int .i64 x.kind, .int .u64 x.n, .slice x.ba x.bytes.length x.bc, .slice x.ia x.ins.length x.ic]] W (RowPost (encT d x) W)) :
    Calls Try.prog 17 #[.agg #[.int .i64 num, .int .i64 3, .int .u64 n, .slice ba bl bc, .slice ia q.length ic]] w (RowPost (sev (num * 8 + 3).toNat ++ (q.flatMap (encT d) ++ sev (num * 8 + 4).toNat)) w) := by
  obtain ⟨m, hm⟩ : ∃ m, (num * 8 + 3).toNat = m := ⟨_, rfl⟩
  obtain ⟨me, hme⟩ : ∃ me, (num * 8 + 4).toNat = me := ⟨_, rfl⟩
  have hor := or_tag h1 h2 (k := 3) (by omega) (by omega) hm
  have HOE := Lib.hid (or_tag h1 h2 (k := 4) (by omega) (by omega) hme)
  have hm2 : (m : Int) ≤ 34359738367 := by omega
  have hme2 : (me : Int) ≤ 34359738367 := by omega
  have hlm := sev_len10 (n := m) (by omega)
  have hlme := sev_len10 (n := me) (by omega)
  have HOL := Lib.hid fun j => outs_len (m := m) (d := d) hlm h5 hl j
  have HS := Lib.hid fun W (hW : Below (w.alloc (.cells #[.int .i64 num, .int .i64 3, .int .u64 n, .slice ba bl bc, .slice ia q.length ic] 38)).heap.size (w.alloc (.cells #[.int .i64 num, .int .i64 3, .int .u64 n, .slice ba bl bc, .slice ia q.length ic] 38)) W) => sev_at m (by omega) (w.alloc (.cells #[.int .i64 num, .int .i64 3, .int .u64 n, .slice ba bl bc, .slice ia q.length ic] 38)) W hW
  have HSE := Lib.hid fun w1 => sev_at me (by omega) w1 w1 (Below.refl _ _)
  have HR := Lib.hid hr
  have HIH := Lib.hid hIH
  have HLL := Lib.hid hl
  rw [hm, hme]
  clear hm hme hr hIH hl
  go_enter Try.func17, Try.ntmps17
  go_wp2_with fail
  refine (HS.out _ (Below.refl _ _)).mono ?_
  rintro e w1 ⟨v, rfl, ho, hb⟩
  obtain ⟨y0, y1, y2, y3, y4⟩ := fbox hb
  obtain ⟨A1, q1, c1, rfl⟩ := own_any ho
  have HO : Hid (Row8 (w.heap.size + 1) w1 (.slice A1 q1 c1) (outs m d q 0)) := by
    have e0 : outs m d q 0 = sev m := by simp [outs]
    rw [e0]
    exact own_weaken ho (base' := w.heap.size + 1) (by simp)
  have HB := Lib.hid ((wa_below w _).trans (hb.mono (wa_below w _).size))
  have HBZ : Hid (w.heap.size + 1 ≤ w1.heap.size) := by unfold Hid; have := hb.size; simpa using this
  have HY0 := Lib.hid y0
  clear ho hb HS hor y0 y2 y3
  go_wp2_with fail
  clear y1 y4
  go_loopw [3, 48] (fun v i wr => ∃ (j : Nat) (A : Option Addr) (z c : Nat), j ≤ q.length ∧ i = .int .i64 j ∧ v = .slice A z c ∧ Hid (Row8 (w.heap.size + 1) wr (.slice A z c) (outs m d q j)) ∧ Hid (Below (w.heap.size + 1) w1 wr)) (fun _ i _ => q.length - (intOf i).toNat)
  case atStart => exact ⟨0, A1, q1, c1, Nat.zero_le _, rfl, rfl, HO, Below.refl _ _⟩
  case round =>
    obtain ⟨j, A, z, c, hj, rfl, rfl, HRO, HBR⟩ := hrel
    clear HO
    have HBW := Lib.hid (HB.out.trans (HBR.out.mono (Nat.le_succ _)))
    have HZR := Lib.hid (Nat.le_trans HBZ.out HBR.out.size)
    by_cases hlt : j < q.length
    · obtain ⟨x, hx⟩ : ∃ x, q[j] = x := ⟨_, rfl⟩
      have hmem := List.getElem_mem hlt
      obtain ⟨g, off, rfl, e0, e1, e2, e3, e4⟩ := rowT_at (rowT_below HR.out HBW.out) hlt
      rw [hx] at e0 e1 e2 e3 e4 hmem
      have HX := Lib.hid hx
      have HC := Lib.hid (HIH.out x hmem)
      have hle := HLL.out x hmem
      have hol := HOL.out j
      have hzr : w.heap.size < wr.heap.size := by have := HZR.out; omega
      clear hx hmem
      go_wp2_with fail
      refine (HC.out _ (HBW.out.alloc HBW.out.size _)).mono ?_
      rintro e w2 ⟨v2, rfl, ho2, hb2⟩
      obtain ⟨A2, c2, rfl, hr2⟩ := own_reads ho2
      have hAW : Below wr.heap.size wr w2 := (wa_below wr _).trans (hb2.mono (wa_below wr _).size)
      have HO2 := Lib.hid (row_on HRO.out hAW)
      have HR2 := Lib.hid hr2
      have HB2 := Lib.hid (HBR.out.trans (hAW.mono HZR.out))
      have HZ2 := Lib.hid (Nat.le_trans HZR.out hAW.size)
      have HON := Lib.hid (outs_next (m := m) (d := d) hlt HX.out)
      clear ho2 hb2 hr2 hAW e0 e1 e2 e3 e4 HC
      go_wp2_with (at_builtin; go_loud (refine print_append_row (w0 := w2) (w.heap.size + 1) rfl (.tmp 52) (.tmp 54) 23 5 .u8 1 rfl Try.underlying23 info5 (by decide) (.slice A z c) (outs m d q j) (encT d x) A2 (encT d x).length c2 rfl rfl HO2.out HR2.out (Below.refl _ _) HZ2.out (by omega) ?_); intro v3 w3 HO3 HB3 _ _; obtain ⟨A3, z3, c3, rfl⟩ := own_any HO3; rw [← HON.out] at HO3; have HRN := Lib.hid HO3; have HBN := Lib.hid (HB2.out.trans HB3); clear HO3 HB3)
      go_roundw
      case rel => exact ⟨j + 1, A3, z3, c3, by omega, by go_num, rfl, HRN, HBN⟩
      case measure => simp [intOf]; omega
    · obtain rfl : j = q.length := by omega
      have y0 : wr.cell? ⟨w.heap.size, 0, none⟩ = some (.int .i64 num) := (HBR.out.cell (p := ⟨w.heap.size, 0, none⟩) (Nat.lt_succ_self _)).trans HY0.out
      have hor := HOE.out
      have hol := HOL.out q.length
      go_wp2_with fail
      refine (HSE.out wr).mono ?_
      rintro e w2 ⟨v2, rfl, ho2, hb2⟩
      obtain ⟨A2, c2, rfl, hr2⟩ := own_reads ho2
      have HO2 := Lib.hid (row_on HRO.out hb2)
      have HR2 := Lib.hid hr2
      have HB2 := Lib.hid (HBW.out.trans (hb2.mono HBW.out.size))
      have HZ2 := Lib.hid (Nat.le_trans HZR.out hb2.size)
      clear ho2 hb2 hr2 y0 hor
      go_wp2_with (at_builtin; go_loud (refine print_append_row (w0 := w2) (w.heap.size + 1) rfl (.tmp 57) (.tmp 63) 23 5 .u8 1 rfl Try.underlying23 info5 (by decide) (.slice A z c) (outs m d q q.length) (sev me) A2 (sev me).length c2 rfl rfl HO2.out HR2.out (Below.refl _ _) HZ2.out (by omega) ?_); intro v3 w3 HO3 HB3 _ _; have HP := Lib.hid (own_weaken HO3 (Nat.le_succ w.heap.size)); have HPB := Lib.hid (HB2.out.trans (HB3.mono (Nat.le_succ _))); clear HO3 HB3)
      go_returns
      have hfin : outs m d q q.length ++ sev me = sev m ++ (q.flatMap (encT d) ++ sev me) := by simp [outs]
      rw [hfin] at HP
      exact ⟨_, rfl, HP.out, HPB.out⟩

theorem written_plain {d : Nat} {p : Nat → Prop} {w0 : World} {h : Nat} {t : Tr} (hO : OkT p w0 h t) (hF : FitT d t) (h3 : t.kind ≠ 3) (w : World) (hb : Below w0.heap.size w0 w) :
    Calls Try.prog 17 #[.agg #[.int .i64 t.num, .int .i64 t.kind, .int .u64 t.n, .slice t.ba t.bytes.length t.bc, .slice t.ia t.ins.length t.ic]] w (RowPost (encT d t) w) := by
  obtain ⟨f1, f2, f3, f4, f5⟩ := fit_kinds hF
  have ho := (hO.below hb).own
  rw [enc_plain h3]
  obtain ⟨num, kind, n, bytes, ba, bc, ins, ia, ic⟩ := t
  simp only at f1 f2 f3 f4 f5 h3 ⊢
  have n0 := ho.n0
  have n1 := ho.n1
  simp only at n0 n1
  rcases f3 with rfl | rfl | rfl | rfl | rfl
  · have hb : bodyT [] ⟨num, 0, n, bytes, ba, bc, ins, ia, ic⟩ = sev n.toNat := by unfold bodyT; simp
    rw [hb]
    exact wr_0 w num n f1 f2 n0 n1 _ _ _ _ _ _
  · have hb : bodyT [] ⟨num, 1, n, bytes, ba, bc, ins, ia, ic⟩ = lo 8 n := by unfold bodyT; simp
    rw [hb]
    exact wr_1 w num n f1 f2 n0 n1 _ _ _ _ _ _
  · have hb : bodyT [] ⟨num, 2, n, bytes, ba, bc, ins, ia, ic⟩ = sev bytes.length ++ bytes := by unfold bodyT; simp
    rw [hb]
    cases ba with
    | none =>
      obtain rfl : bc = 0 := ho.bn rfl
      obtain rfl : bytes = [] := by
        have := ho.bl
        simp only at this
        exact List.eq_nil_of_length_eq_zero (by omega)
      rw [List.append_nil]
      exact wr_2n w num n f1 f2 _ _ _
    | some ad =>
      refine wr_2 w num n f1 f2 ad bytes bc f4 ⟨ho.b8, ho.bm, fun h0 => ?_⟩ _ _ _
      obtain ⟨ad', e, _, hc⟩ := ho.bh h0
      exact ⟨ad', e, hc⟩
  · exact absurd rfl h3
  · have hb : bodyT [] ⟨num, 5, n, bytes, ba, bc, ins, ia, ic⟩ = lo 4 n := by unfold bodyT; simp
    rw [hb]
    exact wr_5 w num n f1 f2 n0 n1 _ _ _ _ _ _

theorem written_tree : ∀ (d : Nat) {p : Nat → Prop} {w0 : World} {h : Nat} {t : Tr}, d ≤ 7 → OkT p w0 h t → FitT d t → ∀ w, Below w0.heap.size w0 w →
    Calls Try.prog 17 #[.agg #[.int .i64 t.num, .int .i64 t.kind, .int .u64 t.n, .slice t.ba t.bytes.length t.bc, .slice t.ia t.ins.length t.ic]] w (RowPost (encT d t) w) := by
  intro d
  induction d with
  | zero =>
    intro p w0 h t hd hO hF w hb
    exact written_plain hO hF (by obtain ⟨f1, f2, f3, f4, f5⟩ := hF; omega) w hb
  | succ d ih =>
    intro p w0 h t hd hO hF w hb
    by_cases h3 : t.kind = 3
    · obtain ⟨f1, f2, f3, f4, f5⟩ := fit_kinds hF
      have fin := hF.2.2.2.2.2 h3
      cases h with
      | zero => exact hO.elim
      | succ h =>
        have hen : encT (d + 1) t = sev (t.num * 8 + 3).toNat ++ (t.ins.flatMap (encT d) ++ sev (t.num * 8 + 4).toNat) := by
          simp only [encT]; unfold bodyT; rw [if_neg (by omega), if_neg (by omega), if_neg (by omega), if_pos h3, h3]
        rw [hen, h3]
        have ho := (hO.below hb).own
        refine wr_3 w t.num t.n f1 f2 t.ba t.bytes.length t.bc t.ia t.ins t.ic d f5 (fun x hx => ?_) (fun h0 => ?_) (fun x hx W hW => ?_)
        · have h1 := encT_len d (hO.2 x hx) (fin x hx)
          have h2 := bdT_7 d (by omega)
          omega
        · obtain ⟨ad, e, _, hc⟩ := ho.ih h0
          exact ⟨ad, e, hc⟩
        · exact ih (by omega) (hO.2 x hx) (fin x hx) W (hb.trans (hW.mono hb.size))
    · exact written_plain hO hF h3 w hb

end Go.Proofs.Ytobponaenabpgaa.Rd
