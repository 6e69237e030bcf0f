/- FnWritten's walk. -/
import Derived.Test.YtobponaenabpgaaWrEnd
import Derived.Deep.RegionHeld3
namespace Go.Proofs.Ytobponaenabpgaa.Rd
open Go.ChangeShapes Go.WideShapes Go.ChangeAt Go.RowKit Sv Go.Proofs.YtobponaenabpgaaW Go.Proofs.YtobponaenabpgaaW.PrintWords
set_option linter.unusedVariables false

theorem whole_at (k : Nat) (hk : k ≤ 6) (n : Int) (h0 : 0 ≤ n) (h1 : n ≤ 18446744073709551615) (a : Option Addr) (m c : Nat) (w W : World) (hW : Below w.heap.size w W) :
    Calls Try.prog 32 #[.agg #[.int .i64 k, .int .u64 n, .slice a m c]] W fun e w' => e = .returned (.agg #[.int .i64 k, .int .u64 (wholeN k n), .slice a m c]) ∧ Hid (Below w.heap.size w w') :=
  (whole_any k hk n h0 h1 a m c W).mono fun e w' ⟨he, hb⟩ => ⟨he, hW.trans (hb.mono hW.size)⟩

set_option maxHeartbeats 8000000 in
set_option maxRecDepth 100000 in
theorem written_walk (w : World) (a0 : Option Addr) (cap0 : Nat) (Q : List Raw) (a1 : Option Addr) (len1 cap1 : Nat) (R : List Int)
    (h1 : len1 ≤ 2147483647) (hR : R.length = min len1 100) (c0 : Q.length ≤ cap0) (c1 : len1 ≤ cap1) (n0 : a0 = none → cap0 = 0) (n1 : a1 = none → cap1 = 0)
    (HI : InRow w a0 Q) (HO : ∀ x ∈ Q, RawOk w x) (HR : Holds8 w a1 R) :
    Calls Try.prog 8 #[.slice a0 Q.length cap0, .slice a1 len1 cap1] w fun e w' => e = .returned (.bool true) ∧ Below w.heap.size w w' := by
  have HN1 := Lib.hid n1
  have HLR := Lib.hid hR
  have HF1 := Lib.hid (fits1 w a0 cap0 Q HI)
  have HFIT := Lib.hid (fit_at w a0 cap0 Q c0 n0 HI HO)
  have HRR := Lib.hid HR
  have b100 : R.length ≤ 100 := by omega
  have hQ := HI.1
  clear HI HO HR n0 n1 hR
  go_enter Try.func8, Try.ntmps8
  go_wp2_with fail
  refine HF1.out.mono ?_
  rintro e w1 ⟨b, rfl, hb⟩
  have HB1 := Lib.hid hb
  clear hb HF1
  cases b with
  | false =>
    go_wp2_with fail
    go_returns
    exact ⟨rfl, HB1.out⟩
  | true =>
    go_upto_region 3 with (fail)
    go_cut [0, 1] (fun l r wc => (∃ A c n, l = .slice A n c ∧ n ≤ 30 ∧ Hid (Fitted w A n wc)) ∧ ∃ c, r = .slice a1 R.length c ∧ R.length ≤ c ∧ (a1 = none → c = 0))
    case first =>
      clear HRR
      by_cases g0 : len1 ≤ 100
      · obtain rfl : len1 = R.length := by have := HLR.out; omega
        have i0 : ((100 : Int) < (R.length : Int)) = False := by simp; omega
        go_region_with (refine (HFIT.out _ (by have := HB1.out; have h' := this.size; go_grown)).mono ?_; rintro e w2 ⟨A, c, n, rfl, hn, HP⟩)
        all_goals go_wp2_with fail
        all_goals go_meet
        all_goals exact ⟨⟨A, c, n, rfl, hn, HP⟩, cap1, rfl, by omega, HN1.out⟩
      · have HLE : Hid (R.length = 100) := by have := HLR.out; exact (by omega : R.length = 100)
        have i0 : ((100 : Int) < (len1 : Int)) = True := by simp; omega
        have i2 : 100 ≤ cap1 := by omega
        have i3 : (100 : Int) ≤ (cap1 : Int) := by omega
        go_region_with (refine (HFIT.out _ (by have := HB1.out; have h' := this.size; go_grown)).mono ?_; rintro e w2 ⟨A, c, n, rfl, hn, HP⟩)
        all_goals go_wp2_with fail
        all_goals go_meet
        all_goals exact ⟨⟨A, c, n, rfl, hn, HP⟩, cap1, by rw [HLE.out], by omega, HN1.out⟩
    case rest =>
      obtain ⟨⟨A, c, n, rfl, hn30, HG0⟩, cr, rfl, hcr, hnr⟩ := hcut
      have HNR := Lib.hid hnr
      obtain ⟨q, hql, hG, hBc⟩ := HG0.out
      subst hql
      have HG := Lib.hid hG
      have HBC := Lib.hid hBc
      have HM0 := Lib.hid (Mid.start wc q)
      clear HG0 hG hBc hnr HFIT HB1 HN1 HLR h1 c0 c1
      go_wp2_with fail
      go_loopw [5, 6, 32] (fun v k n wr => ∃ (j : Nat) (A5 : Option Addr) (m5 c5 : Nat) (A6 : Option Addr) (c6 : Nat), j ≤ q.length ∧ n = .int .i64 j ∧ v = .slice A5 m5 c5 ∧ k = .slice A6 j c6 ∧ Hid (Mid wc q j (.slice A5 m5 c5) (.slice A6 j c6) wr)) (fun _ _ n _ => q.length - (intOf n).toNat)
      case atStart => exact ⟨0, none, 0, 0, none, 0, Nat.zero_le _, rfl, rfl, rfl, HM0⟩
      case round =>
        obtain ⟨j, A5, m5, c5, A6, c6, hj, rfl, rfl, rfl, HI⟩ := hrel
        clear HM0
        by_cases hlt : j < q.length
        · obtain ⟨x, hx⟩ : ∃ x, q[j] = x := ⟨_, rfl⟩
          have hmem := List.getElem_mem hlt
          have hok := HG.out.ok _ hmem
          obtain ⟨⟨k, hk6, hk⟩, hf1, hf2⟩ := HG.out.fit _ hmem
          have hbl : (q[j]).bytes.length ≤ 300 := by
            by_cases h5 : (q[j]).kind < 5
            · rw [(hf1 h5).1]; simp
            · exact (hf2 h5).2
          have HGJ := HG.out.below HI.out.2.2
          obtain ⟨g, off, rfl, e0, e1, e2⟩ := HGJ.row.at hlt
          have hlen := HG.out.take_len (j + 1)
          rw [take_next hlt, List.length_append] at hlen
          have hWB : Below wr.heap.size wr (wr.alloc (.cells #[.int .i64 k, .int .u64 x.n, .slice x.a x.bytes.length x.c] 62)) := (Below.refl _ _).alloc (Nat.le_refl _) _
          have hcall := written_any k hk6 (q[j]).n hok.n0 hok.n1 (q[j]).a (q[j]).bytes (q[j]).c (by omega) hok.nil (wr.alloc (.cells #[.int .i64 k, .int .u64 x.n, .slice x.a x.bytes.length x.c] 62)) (holds_below (HGJ.ok _ hmem).holds hWB)
          rw [hx] at hcall hk e1 e2 hlen
          rw [hx, hk] at e0
          rw [hk, Int.toNat_natCast] at hlen
          have hjl : ((q.take j).map fun x => x.kind).length = j := by simp; omega
          have HJL := Lib.hid hjl
          have hlen' : ((encs' ((q.map itOf).take j)).length + (encIt k x.n x.bytes).length) * 1 ≤ 140737488355328 := by omega
          clear hjl
          have HC := Lib.hid hcall
          have HX := Lib.hid hx
          have HK := Lib.hid hk
          have HLEN := Lib.hid hlen'
          clear hcall hx hk hok hf1 hf2 hmem HGJ hWB hlen hlen' hbl
          have HIS := Lib.hid HI.out.2.2.size
          go_wp2_with fail
          refine HC.out.mono ?_
          intro e w2 hp
          obtain ⟨v2, rfl⟩ : ∃ v2, e = .returned v2 := by obtain ⟨v2, h, _⟩ := hp; exact ⟨v2, h⟩
          obtain ⟨A2, c2, rfl, hr2, ho5, ho6, hb2, hbox⟩ := HI.out.call hp
          have HR2 := Lib.hid hr2
          have HO5 := Lib.hid ho5
          have HO6 := Lib.hid ho6
          have HB2 := Lib.hid hb2
          have HBOX := Lib.hid (hbox _ _ rfl)
          clear hp hr2 ho5 ho6 hb2 hbox HC e0 e1 e2
          go_upto_region 10 with (at_builtin; go_loud (refine print_append_row (w0 := w2) wc.heap.size rfl (.tmp 36) (.tmp 38) 23 5 .u8 1 rfl Try.underlying23 info5 (by decide) (.slice A5 m5 c5) (encs' ((q.map itOf).take j)) (encIt k x.n x.bytes) A2 (encIt k x.n x.bytes).length c2 rfl rfl HO5.out HR2.out (Below.refl _ _) HB2.out.size HLEN.out ?_); intro v3 w3 HO1 HB1 hg _; obtain ⟨A3, m3, c3, rfl⟩ := own_any HO1; have hbx := HBOX.out w3 hg 0 _ rfl; obtain ⟨hw5, hw6, hwb⟩ := Mid.want hlt HO5.out HO6.out HB2.out hg HB1 HB1.size (by rw [HX.out, HK.out]; rfl) HO1; replace hw6 := own_len hw6 HJL.out.symm; have HW5 := Lib.hid hw5; have HW6 := Lib.hid hw6; have HWB := Lib.hid hwb; clear HO1 HB1 hg hw5 hw6 hwb)
          clear HO5 HR2 HO6 HB2 HBOX HLEN
          go_wp2_with (at_builtin; go_loud (refine print_append_num (w0 := w3) wc.heap.size rfl (.tmp 40) (.tmp 43) 51 3 .i64 8 rfl Try.underlying51 info3 (by decide) (.slice A6 j c6) ((q.take j).map fun x : Raw => x.kind) k rfl rfl HW6.out (Below.refl _ _) HWB.out.size (by rw [HJL.out]; omega) ?_); intro v4 w4 HO1 HB1 hg _; have hw6 := own_len HW6.out HJL.out; have hmid := Mid.kinds hlt HW5.out hw6 HWB.out hg HB1 (by rw [HX.out, HK.out]) HO1; obtain ⟨A4, c4, rfl⟩ := hmid.shape.2; have HMN := Lib.hid hmid; clear HO1 HB1 hg hw6 hmid)
          go_roundw
          case rel => exact ⟨j + 1, A3, m3, c3, A4, c4, by omega, by go_num, rfl, rfl, HMN⟩
          case measure => simp [intOf]; omega
        · obtain rfl : j = q.length := by omega
          obtain ⟨L, hL⟩ : ∃ L, encs' (q.map itOf) = L := ⟨_, rfl⟩
          obtain ⟨rfl, hl, hB, hh5, hn5, hks, hGr, hbr⟩ := mid_done HG.out HI.out hL
          have HIMP := Lib.hid (impl_written wr A c q hGr)
          rw [hL] at HIMP
          have HCL := Lib.hid fun W (hW : Below wr.heap.size wr W) => clone_any W A5 c5 L (by omega) hn5 (holds_below hh5 hW)
          have HL := Lib.hid hL
          have HBB := Lib.hid hB
          have HH5 := Lib.hid hh5
          have HKS := Lib.hid hks
          have HGR := Lib.hid hGr
          have HBW := Lib.hid (HBC.out.trans (hbr.mono HBC.out.size))
          have HR1 := Lib.hid (holds_below HRR.out HBW.out)
          clear hL hB hh5 hn5 hks hGr hbr HI HG HBC HRR
          go_wp2_with fail
          refine HIMP.out.mono ?_
          rintro e w2 ⟨v9, rfl, ho9, hb2⟩
          obtain ⟨A9, c9, rfl, hs9⟩ := row_sl8 ho9 hl HBB.out
          have HB2 := Lib.hid hb2
          have HS9 := Lib.hid hs9
          clear ho9 hb2 hs9 HIMP
          go_wp2_with fail
          refine (HCL.out _ HB2.out).mono ?_
          rintro e w3 ⟨v3, rfl, ho3, hb3⟩
          obtain ⟨A3, c3, rfl⟩ := own_slice ho3
          have HO3 := Lib.hid ho3
          have HB3 := Lib.hid (HB2.out.trans (hb3.mono HB2.out.size))
          have HB23 := Lib.hid hb3
          have HRI := Lib.hid (reads_holds (holds_below HR1.out HB3.out))
          clear ho3 hb3 HCL
          go_wp2_with (at_builtin; go_loud (refine print_append_row (w0 := w3) w2.heap.size rfl (.tmp 50) (.tmp 51) 23 5 .u8 1 rfl Try.underlying23 info5 (by decide) (.slice A3 L.length c3) L R a1 R.length cr rfl rfl HO3.out HRI.out (Below.refl _ _) HB23.out.size (by omega) ?_); intro v4 w4 HO4 HB4 hg4 _; obtain ⟨N, hN⟩ : ∃ N, (L ++ R).length = N := ⟨_, rfl⟩; replace HO4 := own_len HO4 hN; obtain ⟨A4, c4, rfl⟩ := own_slice HO4; have hbel4 : Below w2.heap.size w2 w4 := HB23.out.trans (HB4.mono (Nat.le_refl _)); have HBL4 := Lib.hid (HB2.out.trans (hbel4.mono HB2.out.size)); have HBL24 := Lib.hid hbel4; have HRD := Lib.hid (read_back HGR.out HL.out hl b100 HBB.out HR1.out.1 HKS.out HBL4.out hN HO4 c6); clear HO4 HB4 hg4 hN hbel4)
          clear HO3 HRI HB3 HB23
          go_wp2_with fail
          refine HRD.out.mono ?_
          rintro e w5 ⟨AI, cI, ar, cr', rfl, hit, hsr, hb5⟩
          have HB5 := Lib.hid (HBL4.out.trans (hb5.mono HBL4.out.size))
          have HB25 := Lib.hid (HBL24.out.trans (hb5.mono HBL24.out.size))
          have HIT := Lib.hid hit
          have HGQ := Lib.hid (HGR.out.below HB5.out)
          have HWF := Lib.hid (HBW.out.trans (HB5.out.mono HBW.out.size))
          have cv1 := sl8_string (HS9.out.below HB25.out) c9
          have cv2 := sl8_string ((holds_sl8 HH5.out).below HB5.out) c5
          have cv3 := sl8_string hsr cr'
          have cv4 := sl8_string ((holds_sl8 HR1.out).below HB5.out) cr
          clear hit hsr hb5 HRD HBL4 HBL24 HB2 HGR HBW HKS HH5 HR1 HS9 HB25 HB5
          go_wp2_with fail
          clear cv1 cv2 cv3 cv4
          go_loopw [83] (fun n wq => ∃ i : Nat, i ≤ q.length ∧ n = .int .i64 i ∧ Hid (Below w5.heap.size w5 wq)) (fun n _ => q.length - (intOf n).toNat)
          case atStart => exact ⟨0, Nat.zero_le _, rfl, Below.refl _ _⟩
          case round =>
            obtain ⟨i, hi, rfl, HQ⟩ := hrel
            by_cases hlt : i < q.length
            · obtain ⟨x, hx⟩ : ∃ x, q[i] = x := ⟨_, rfl⟩
              have hmem := List.getElem_mem hlt
              obtain ⟨⟨k, hk6, hk⟩, _, _⟩ := HGQ.out.fit _ hmem
              have hok := HGQ.out.ok _ hmem
              rw [hx] at hk hok
              obtain ⟨gI, aI, cbI, rfl, hsI, y0, y1, y2⟩ := back_at (HIT.out.below HQ.out) hlt hx hk
              have hA3 : Below wr.heap.size wr (wr.alloc (.cells #[.int .i64 k, .int .u64 (wholeN k x.n), .slice aI x.bytes.length cbI] 62)) := (Below.refl _ _).alloc (Nat.le_refl _) _
              have hA5 : Below w5.heap.size w5 (wr.alloc (.cells #[.int .i64 k, .int .u64 (wholeN k x.n), .slice aI x.bytes.length cbI] 62)) := HQ.out.trans (hA3.mono HQ.out.size)
              obtain ⟨g, off, rfl, z0, z1, z2⟩ := (HGQ.out.row.below hA5).at hlt
              rw [hx] at z1 z2
              rw [hx, hk] at z0
              have x0 : (wr.alloc (.cells #[.int .i64 k, .int .u64 (wholeN k x.n), .slice aI x.bytes.length cbI] 62)).cell? ⟨wr.heap.size, 0, none⟩ = some (.int .i64 k) := by simp
              have x1 : (wr.alloc (.cells #[.int .i64 k, .int .u64 (wholeN k x.n), .slice aI x.bytes.length cbI] 62)).cell? ⟨wr.heap.size, 1, none⟩ = some (.int .u64 (wholeN k x.n)) := by simp
              have x2 : (wr.alloc (.cells #[.int .i64 k, .int .u64 (wholeN k x.n), .slice aI x.bytes.length cbI] 62)).cell? ⟨wr.heap.size, 2, none⟩ = some (.slice aI x.bytes.length cbI) := by simp
              have hWH := whole_at k hk6 x.n hok.n0 hok.n1 x.a x.bytes.length x.c (wr.alloc (.cells #[.int .i64 k, .int .u64 (wholeN k x.n), .slice aI x.bytes.length cbI] 62))
              have hSM := fun W hW => same_at (k := k) (n := wholeN k x.n) (hsI.below hA3) ((holds_sl8 hok.holds).below hA5) cbI x.c W hW
              have HX0 := Lib.hid x0
              have HX1 := Lib.hid x1
              have HX2 := Lib.hid x2
              have HZ0 := Lib.hid z0
              have HZ1 := Lib.hid z1
              have HZ2 := Lib.hid z2
              have HWH := Lib.hid hWH
              have HSM := Lib.hid hSM
              have HA5 := Lib.hid hA5
              have d0 : decide ((q.length : Int) ≤ (i : Int)) = false := by simp; omega
              clear hx hk hok hmem hA3 hA5 x0 x1 x2 z0 z1 z2 hWH hSM hsI
              go_wp2_with fail
              clear y0 y1 y2
              generalize hwq : (wr.alloc (.cells #[.int .i64 k, .int .u64 (wholeN k x.n), .slice aI x.bytes.length cbI] 62)) = wq at HX0 HX1 HX2 HZ0 HZ1 HZ2 HWH HSM HA5 ⊢
              have x0 := HX0.out
              have x1 := HX1.out
              have x2 := HX2.out
              have z0 := HZ0.out
              have z1 := HZ1.out
              have z2 := HZ2.out
              have i0 : (0 : Int) ≤ (i : Int) := by omega
              have i1 : (i : Int) < (q.length : Int) := by omega
              clear hwq
              go_region_held3 (fun w' => w'.cell? ⟨wr.heap.size, 0, none⟩ = some (.int .i64 k) ∧ w'.cell? ⟨wr.heap.size, 1, none⟩ = some (.int .u64 (wholeN k x.n)) ∧ w'.cell? ⟨wr.heap.size, 2, none⟩ = some (.slice aI x.bytes.length cbI) ∧ w'.cell? ⟨g, off + i * 3, none⟩ = some (.int .i64 k) ∧ w'.cell? ⟨g, off + i * 3 + 1, none⟩ = some (.int .u64 x.n) ∧ w'.cell? ⟨g, off + i * 3 + 2, none⟩ = some (.slice x.a x.bytes.length x.c))
                (first | go_keep | (refine ⟨pw_cell_below HB6.out HX0.out, pw_cell_below HB6.out HX1.out, pw_cell_below HB6.out HX2.out, pw_cell_below HB6.out HZ0.out, pw_cell_below HB6.out HZ1.out, pw_cell_below HB6.out HZ2.out⟩))
                (first
                  | (go_at_call 32; refine (HWH.out _ ?_).mono ?_; (go_grown); rintro e w6 ⟨rfl, HB6⟩)
                  | (go_at_call 27; refine (HSM.out _ ?_).mono ?_; (exact HB6.out); rintro e w7 ⟨rfl, hb7⟩; replace HB6 := Lib.hid hb7; clear hb7))
              all_goals go_wp2_with fail
              all_goals
                go_roundw
                case rel => exact ⟨i + 1, by omega, by go_num, HA5.out.trans (HB6.out.mono HA5.out.size)⟩
                case measure => simp [intOf]; omega
            · obtain rfl : i = q.length := by omega
              go_wp2_with fail
              go_returns
              exact ⟨rfl, HWF.out.trans (HQ.out.mono HWF.out.size)⟩

end Go.Proofs.Ytobponaenabpgaa.Rd
