/- The values that the law writes: fit. -/
import Derived.Test.YtobponaenabpgaaWrFits1
import Derived.BigRegion
namespace Go.Proofs.Ytobponaenabpgaa.Rd
open Go.ChangeShapes Go.WideShapes Go.ChangeAt Go.RowKit Sv Go.Proofs.YtobponaenabpgaaW Go.Proofs.YtobponaenabpgaaW.PrintWords
set_option linter.unusedVariables false

/-- What is known of a value as it came in. -/
structure RawOk (w : World) (x : Raw) : Prop where
  k0 : -9223372036854775808 ≤ x.kind
  k1 : x.kind ≤ 9223372036854775807
  n0 : 0 ≤ x.n
  n1 : x.n ≤ 18446744073709551615
  le : x.bytes.length ≤ x.c
  nil : x.a = none → x.c = 0
  holds : Holds8 w x.a x.bytes

/-- A value of which the law speaks. -/
def FitR (x : Raw) : Prop := (∃ k : Nat, k ≤ 6 ∧ x.kind = k) ∧ (x.kind < 5 → x.bytes = [] ∧ x.a = none ∧ x.c = 0) ∧ (¬ x.kind < 5 → x.n = 0 ∧ x.bytes.length ≤ 300)

theorem rowR_set : ∀ (q : List Raw) (j : Nat) (hj : j < q.length) (i : Nat) (hi : i < 3) (u : Value) (y : Raw), rowR y = (rowR q[j]).set i u → (q.flatMap rowR).set (j * 3 + i) u = (q.set j y).flatMap rowR
  | x :: r, 0, hj, i, hi, u, y, hy => by
    simp only [List.flatMap_cons, List.set_cons_zero, List.getElem_cons_zero] at hy ⊢
    rw [hy, List.set_append_left _ _ (by simp [rowR]; omega)]
    simp
  | x :: r, j + 1, hj, i, hi, u, y, hy => by
    simp only [List.flatMap_cons, List.set_cons_succ, List.getElem_cons_succ] at hy ⊢
    rw [List.set_append_right _ _ (by simp [rowR]; omega), ← rowR_set r j (by simpa using hj) i hi u y hy]
    congr 2
    simp [rowR]
    omega

/-- The values while they are being brought into bounds. -/
def FRow (w : World) (v : Value) (n j : Nat) (wr : World) : Prop :=
  ∃ q : List Raw, q.length = n ∧ (∀ x ∈ q, RawOk w x) ∧ (∀ i (h : i < q.length), i < j → FitR q[i]) ∧ wr.ownsRow w.heap.size 62 3 v n (q.flatMap rowR) ∧ Below w.heap.size w wr

/-- One value put in the place of another. -/
theorem FRow.put {w w2 : World} {v : Value} {n j : Nat} {q : List Raw} (hl : q.length = n) (hR : ∀ x ∈ q, RawOk w x) (hF : ∀ i (h : i < q.length), i < j → FitR q[i]) (hj : j < n) (y : Raw) (hy : RawOk w y) (hf : FitR y)
    (ho : w2.ownsRow w.heap.size 62 3 v n ((q.set j y).flatMap rowR)) (hb : Below w.heap.size w w2) : FRow w v n (j + 1) w2 := by
  refine ⟨q.set j y, by simp [hl], ?_, ?_, ho, hb⟩
  · intro x hx
    rcases List.mem_or_eq_of_mem_set hx with hx | rfl
    · exact hR x hx
    · exact hy
  · intro i hi hij
    simp only [List.length_set] at hi
    rcases Nat.lt_or_ge i j with h | h
    · rw [List.getElem_set_ne (by omega)]; exact hF i hi h
    · obtain rfl : i = j := by omega
      rw [List.getElem_set_self]; exact hf

theorem own_form {w : World} {base n : Nat} {A : Option Addr} {c : Nat} {size : Nat} {e : TypeId} {xs : List Value} (h : w.ownsRow base e size (.slice A n c) n xs) (h0 : 0 < n) : ∃ g, A = some ⟨g, 0, none⟩ ∧ base ≤ g ∧ n ≤ c := by
  rcases h.2 with ⟨h', hn⟩ | ⟨g, cap, cur, h', hb, hh, hnc, _⟩
  · cases h'; omega
  · cases h'; exact ⟨g, rfl, hb, hnc⟩

theorem FRow.at {w wr : World} {A : Option Addr} {c n j : Nat} (h : FRow w (.slice A n c) n j wr) (hj : j < n) :
    ∃ g x, A = some ⟨g, 0, none⟩ ∧ RawOk w x ∧ (∀ i, wr.frozen? ⟨g, i, none⟩ = false) ∧
      wr.cell? ⟨g, j * 3, none⟩ = some (.int .i64 x.kind) ∧ wr.cell? ⟨g, j * 3 + 1, none⟩ = some (.int .u64 x.n) ∧ wr.cell? ⟨g, j * 3 + 2, none⟩ = some (.slice x.a x.bytes.length x.c) ∧
      (∀ k : Nat, k < 5 → FRow w (.slice A n c) n (j + 1) ((wr.setCell ⟨g, j * 3, none⟩ (.int .i64 k)).setCell ⟨g, j * 3 + 2, none⟩ (.slice none 0 0))) ∧
      (∀ k m : Nat, 5 ≤ k → k ≤ 6 → m ≤ 300 → m ≤ x.bytes.length → FRow w (.slice A n c) n (j + 1) (((wr.setCell ⟨g, j * 3, none⟩ (.int .i64 k)).setCell ⟨g, j * 3 + 1, none⟩ (.int .u64 0)).setCell ⟨g, j * 3 + 2, none⟩ (.slice x.a m x.c)) ∧
        FRow w (.slice A n c) n (j + 1) (((wr.setCell ⟨g, j * 3, none⟩ (.int .i64 k)).setCell ⟨g, j * 3 + 2, none⟩ (.slice x.a m x.c)).setCell ⟨g, j * 3 + 1, none⟩ (.int .u64 0))) := by
  obtain ⟨q, hl, hR, hF, ho, hB⟩ := h
  obtain ⟨g, rfl, hg, hnc⟩ := own_form ho (by omega)
  have hjq : j < q.length := by omega
  have hx := hR _ (List.getElem_mem hjq)
  have c3 : ∀ i, i < 3 → wr.cell? ⟨g, j * 3 + i, none⟩ = (rowR q[j])[i]? := fun i hi => by rw [ho.cellAt _ (by omega), rowR_get q j hjq i hi]
  refine ⟨g, q[j], rfl, hx, fun i => ho.frozenAt i, (c3 0 (by omega)).trans rfl, (c3 1 (by omega)).trans rfl, (c3 2 (by omega)).trans rfl, ?_, ?_⟩
  · intro k hk
    have o1 := (ho.stored (j * 3) (.int .i64 k)).1
    rw [show j * 3 = j * 3 + 0 from rfl, rowR_set q j hjq 0 (by omega) _ { q[j] with kind := (k : Int) } (by simp [rowR])] at o1
    have o2 := (o1.stored (j * 3 + 2) (.slice none 0 0)).1
    rw [rowR_set _ j (by simpa using hjq) 2 (by omega) _ { q[j] with kind := (k : Int), bytes := [], a := none, c := 0 } (by simp [rowR])] at o2
    rw [List.set_set] at o2
    refine FRow.put hl hR hF hj _ ?_ ?_ o2 ((hB.setCell (p := ⟨g, j * 3, none⟩) hg _).setCell (p := ⟨g, j * 3 + 2, none⟩) hg _)
    · exact { k0 := by simp only; omega, k1 := by simp only; omega, n0 := hx.n0, n1 := hx.n1, le := by simp, nil := fun _ => rfl, holds := ⟨fun x hx => by simp at hx, by simp, fun h => by simp at h⟩ }
    · exact ⟨⟨k, by omega, rfl⟩, fun _ => ⟨rfl, rfl, rfl⟩, fun h => by simp only at h; omega⟩
  · intro k m hk hk6 hm hml
    have o1 := (ho.stored (j * 3) (.int .i64 k)).1
    rw [show j * 3 = j * 3 + 0 from rfl, rowR_set q j hjq 0 (by omega) _ { q[j] with kind := (k : Int) } (by simp [rowR])] at o1
    have hok : RawOk w { q[j] with kind := (k : Int), n := 0, bytes := (q[j]).bytes.take m } :=
      { k0 := by simp only; omega, k1 := by simp only; omega, n0 := by simp, n1 := by simp, le := by have := hx.le; simp; omega, nil := hx.nil,
        holds := ⟨fun x hh => hx.holds.1 x (List.mem_of_mem_take hh), by have := hx.holds.2.1; simp; omega, fun h0 => by
          obtain ⟨ad, e, hc⟩ := hx.holds.2.2 (by simp at h0; omega)
          refine ⟨ad, e, fun i hi => ?_⟩
          simp at hi
          rw [hc i (by omega)]
          simp [at8, List.getD_eq_getElem?_getD, show i < m by omega]⟩ }
    have hfit : FitR { q[j] with kind := (k : Int), n := 0, bytes := (q[j]).bytes.take m } := ⟨⟨k, by omega, rfl⟩, fun h => by simp only at h; omega, fun _ => ⟨rfl, by simp; omega⟩⟩
    have hrow : rowR { q[j] with kind := (k : Int), n := 0, bytes := (q[j]).bytes.take m } = [.int .i64 k, .int .u64 0, .slice (q[j]).a m (q[j]).c] := by simp [rowR, Nat.min_eq_left hml]
    constructor
    · have o2 := (o1.stored (j * 3 + 1) (.int .u64 0)).1
      rw [rowR_set _ j (by simpa using hjq) 1 (by omega) _ { q[j] with kind := (k : Int), n := 0 } (by simp [rowR]), List.set_set] at o2
      have o3 := (o2.stored (j * 3 + 2) (.slice (q[j]).a m (q[j]).c)).1
      rw [rowR_set _ j (by simpa using hjq) 2 (by omega) _ _ (hrow.trans (by simp [rowR])), List.set_set] at o3
      exact FRow.put hl hR hF hj _ hok hfit o3 (((hB.setCell (p := ⟨g, j * 3, none⟩) hg _).setCell (p := ⟨g, j * 3 + 1, none⟩) hg _).setCell (p := ⟨g, j * 3 + 2, none⟩) hg _)
    · have o2 := (o1.stored (j * 3 + 2) (.slice (q[j]).a m (q[j]).c)).1
      rw [rowR_set _ j (by simpa using hjq) 2 (by omega) _ { q[j] with kind := (k : Int), bytes := (q[j]).bytes.take m } (by simp [rowR, Nat.min_eq_left hml]), List.set_set] at o2
      have o3 := (o2.stored (j * 3 + 1) (.int .u64 0)).1
      rw [rowR_set _ j (by simpa using hjq) 1 (by omega) _ _ (hrow.trans (by simp [rowR, Nat.min_eq_left hml])), List.set_set] at o3
      exact FRow.put hl hR hF hj _ hok hfit o3 (((hB.setCell (p := ⟨g, j * 3, none⟩) hg _).setCell (p := ⟨g, j * 3 + 2, none⟩) hg _).setCell (p := ⟨g, j * 3 + 1, none⟩) hg _)

theorem FRow.drew {w wr : World} {v : Value} {n j : Nat} (h : FRow w v n j wr) : FRow w v n j wr.drew := by
  obtain ⟨q, hl, hR, hF, ho, hB⟩ := h
  exact ⟨q, hl, hR, hF, ho, below_drew hB⟩

theorem cloneRow_any (a : Option Addr) (cap n : Nat) (q : List Raw) (hn : n = q.length) (hl : q.length ≤ 1000) (h0 : a = none → cap = 0) (w : World) (h : InRow w a q) : Calls Try.prog 56 #[.slice a n cap] w (CloneRow q w) := by
  subst hn
  cases a with
  | none =>
    obtain rfl := h0 rfl
    obtain rfl : q = [] := by
      rcases Nat.eq_zero_or_pos q.length with h1 | h1
      · exact List.eq_nil_of_length_eq_zero h1
      · obtain ⟨ad, e, _⟩ := h.2.2 h1
        cases e
    exact cloneRow_nil w
  | some ad => exact cloneRow_some ad cap q hl w h

/-- What fit leaves. -/
def FitPost (w : World) (e : Ending) (w' : World) : Prop := ∃ A c n, e = .returned (.slice A n c) ∧ n ≤ 30 ∧ FRow w (.slice A n c) n n w'

set_option maxHeartbeats 2000000 in
set_option maxRecDepth 100000 in
theorem fit_any (w : World) (a : Option Addr) (len cap : Nat) (q : List Raw) (hl : q.length = min len 30) (hc : len ≤ cap) (hn : a = none → cap = 0) (h : InRow w a q) (hR : ∀ x ∈ q, RawOk w x) :
    Calls Try.prog 29 #[.slice a len cap] w (FitPost w) := by
  have HC := Lib.hid fun c (hc : a = none → c = 0) n hq => cloneRow_any a c n q hq (by omega) hc w h
  have HN := Lib.hid hn
  have HL := Lib.hid hl
  have HR := Lib.hid hR
  clear h hR hn hl
  go_enter Try.func29, Try.ntmps29
  go_upto_region 1 with (fail)
  go_cut [0] (fun l wc => ∃ A c n, l = .slice A n c ∧ n ≤ 30 ∧ Hid (FRow w (.slice A n c) n 0 wc))
  case first =>
    by_cases g0 : len ≤ 30
    · have hlq : len = q.length := by have := HL.out; omega
      have HLQ := Lib.hid hlq
      clear hlq
      have i0 : ((30 : Int) < (len : Int)) = False := by simp; omega
      go_wp2_with fail
      refine (HC.out cap HN.out len HLQ.out).mono ?_
      rintro e w1 ⟨v, rfl, ho, hb⟩
      obtain ⟨A, c, rfl⟩ := own_slice ho
      have HF : Hid (FRow w (.slice A q.length c) q.length 0 w1) := ⟨q, rfl, HR.out, fun i _ hi => absurd hi (by omega), ho, hb⟩
      have hq30 : q.length ≤ 30 := by have := HLQ.out; omega
      clear ho hb
      go_wp2_with fail
      go_meet
      exact ⟨A, c, q.length, rfl, hq30, HF⟩
    · have hlq : 30 = q.length := by have := HL.out; omega
      have HLQ := Lib.hid hlq
      clear hlq
      have i0 : ((30 : Int) < (len : Int)) = True := by simp; omega
      have i4 : 30 ≤ cap := by omega
      have i5 : (30 : Int) ≤ (cap : Int) := by omega
      go_wp2_with fail
      refine (HC.out cap HN.out 30 HLQ.out).mono ?_
      rintro e w1 ⟨v, rfl, ho, hb⟩
      obtain ⟨A, c, rfl⟩ := own_slice ho
      have HF : Hid (FRow w (.slice A q.length c) q.length 0 w1) := ⟨q, rfl, HR.out, fun i _ hi => absurd hi (by omega), ho, hb⟩
      have hq30 : q.length ≤ 30 := by have := HLQ.out; omega
      clear ho hb
      go_wp2_with fail
      go_meet
      exact ⟨A, c, q.length, rfl, hq30, HF⟩
  case rest =>
    obtain ⟨A, c, n, rfl, hn, HF⟩ := hcut
    clear HC HN HL HR
    go_wp2_with fail
    go_loopw [12] (fun i wr => ∃ j : Nat, j ≤ n ∧ i = .int .i64 j ∧ Hid (FRow w (.slice A n c) n j wr)) (fun i _ => n - (intOf i).toNat)
    case atStart => exact ⟨0, Nat.zero_le _, rfl, HF⟩
    case round =>
      obtain ⟨j, hj, rfl, HI⟩ := hrel
      clear HF
      by_cases hlt : j < n
      · obtain ⟨g, x, rfl, hx, hfz, e0, e1, e2, hn1, hn2⟩ := HI.out.at hlt
        have hk0 := hx.k0
        have hk1 := hx.k1
        have hxle := hx.le
        have hxb := hx.holds.2.1
        have f0 := hfz (j * 3)
        have f1 := hfz (j * 3 + 1)
        have f2 := hfz (j * 3 + 2)
        have HN1 := Lib.hid hn1
        have HN2 := Lib.hid hn2
        clear hn1 hn2 hfz hx HI
        go_wp2_with fail
        refine (below_any x.kind _ hk0 hk1).mono ?_
        rintro e w1 ⟨k, hk, rfl, rfl⟩
        by_cases k5 : k < 5
        · have HX := Lib.hid (HN1.out k k5)
          clear HN1 HN2
          go_wp2_with fail
          go_roundw
          case rel => exact ⟨j + 1, by omega, by go_num, HX⟩
          case measure => simp [intOf]; omega
        · by_cases h300 : x.bytes.length ≤ 300
          · have HX := Lib.hid (HN2.out k x.bytes.length (by omega) hk h300 (Nat.le_refl _))
            have i0 : ((300 : Int) < (x.bytes.length : Int)) = False := by simp; omega
            have e0' : (wr.setCell ⟨g, j * 3, none⟩ (.int .i64 k)).cell? ⟨g, j * 3, none⟩ = some (.int .i64 k) := World.cell?_setCell_same _ _ _ e0
            have e1' : (wr.setCell ⟨g, j * 3, none⟩ (.int .i64 k)).cell? ⟨g, j * 3 + 1, none⟩ = some (.int .u64 x.n) := (World.cell?_setCell_other _ _ _ _ (by simp)).trans e1
            have e2' : (wr.setCell ⟨g, j * 3, none⟩ (.int .i64 k)).cell? ⟨g, j * 3 + 2, none⟩ = some (.slice x.a x.bytes.length x.c) := (World.cell?_setCell_other _ _ _ _ (by simp)).trans e2
            have f1' : (wr.setCell ⟨g, j * 3, none⟩ (.int .i64 k)).frozen? ⟨g, j * 3 + 1, none⟩ = false := (World.frozen?_setCell _ _ _ _).trans f1
            have f2' : (wr.setCell ⟨g, j * 3, none⟩ (.int .i64 k)).frozen? ⟨g, j * 3 + 2, none⟩ = false := (World.frozen?_setCell _ _ _ _).trans f2
            have E0 := Lib.hid e0'
            have E1 := Lib.hid e1'
            have E2 := Lib.hid e2'
            have F1 := Lib.hid f1'
            have F2 := Lib.hid f2'
            clear HN1 HN2 e0' e1' e2' f1' f2'
            go_wp2_with fail
            generalize hW : (wr.setCell ⟨g, j * 3, none⟩ (.int .i64 k)) = W at HX E0 E1 E2 F1 F2 ⊢
            have e1' := E1.out
            have e2' := E2.out
            have f1' := F1.out
            have f2' := F2.out
            clear hW E0 E1 E2 F1 F2 e0 e1 e2 f0 f1 f2
            have j0 : (0 : Int) ≤ (j : Int) := by omega
            have j1 : (j : Int) < (n : Int) := by omega
            go_region
            all_goals go_wp2_with fail
            exact ⟨⟨j + 1, by omega, by go_num, HX.out.1.drew⟩, by simp [intOf]; omega⟩
          · have HX := Lib.hid (HN2.out k 300 (by omega) hk (Nat.le_refl _) (by omega))
            have i0 : ((300 : Int) < (x.bytes.length : Int)) = True := by simp; omega
            have e0' : (wr.setCell ⟨g, j * 3, none⟩ (.int .i64 k)).cell? ⟨g, j * 3, none⟩ = some (.int .i64 k) := World.cell?_setCell_same _ _ _ e0
            have e1' : (wr.setCell ⟨g, j * 3, none⟩ (.int .i64 k)).cell? ⟨g, j * 3 + 1, none⟩ = some (.int .u64 x.n) := (World.cell?_setCell_other _ _ _ _ (by simp)).trans e1
            have e2' : (wr.setCell ⟨g, j * 3, none⟩ (.int .i64 k)).cell? ⟨g, j * 3 + 2, none⟩ = some (.slice x.a x.bytes.length x.c) := (World.cell?_setCell_other _ _ _ _ (by simp)).trans e2
            have f1' : (wr.setCell ⟨g, j * 3, none⟩ (.int .i64 k)).frozen? ⟨g, j * 3 + 1, none⟩ = false := (World.frozen?_setCell _ _ _ _).trans f1
            have f2' : (wr.setCell ⟨g, j * 3, none⟩ (.int .i64 k)).frozen? ⟨g, j * 3 + 2, none⟩ = false := (World.frozen?_setCell _ _ _ _).trans f2
            have E0 := Lib.hid e0'
            have E1 := Lib.hid e1'
            have E2 := Lib.hid e2'
            have F1 := Lib.hid f1'
            have F2 := Lib.hid f2'
            clear HN1 HN2 e0' e1' e2' f1' f2'
            go_wp2_with fail
            generalize hW : (wr.setCell ⟨g, j * 3, none⟩ (.int .i64 k)) = W at HX E0 E1 E2 F1 F2 ⊢
            have e1' := E1.out
            have e2' := E2.out
            have f1' := F1.out
            have f2' := F2.out
            clear hW E0 E1 E2 F1 F2 e0 e1 e2 f0 f1 f2
            have j0 : (0 : Int) ≤ (j : Int) := by omega
            have j1 : (j : Int) < (n : Int) := by omega
            go_region
            all_goals go_wp2_with fail
            exact ⟨⟨j + 1, by omega, by go_num, HX.out.1.drew⟩, by simp [intOf]; omega⟩
      · obtain rfl : j = n := by omega
        go_wp2
        go_returns
        exact ⟨_, _, _, rfl, hn, HI.out⟩

end Go.Proofs.Ytobponaenabpgaa.Rd
