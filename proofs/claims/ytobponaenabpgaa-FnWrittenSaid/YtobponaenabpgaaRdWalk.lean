/- FnRead's walk. -/
import Derived.Test.YtobponaenabpgaaRdMid
import Derived.StillTailTactics
import Derived.WalkSmall
namespace Go.Proofs.Ytobponaenabpgaa.Rd
open Go.ChangeShapes Go.WideShapes Go.ChangeAt Go.RowKit Sv Go.Proofs.YtobponaenabpgaaW Go.Proofs.YtobponaenabpgaaW.PrintWords
set_option linter.unusedVariables false

def Laid (w : World) (K0 : List Int) (n : Nat) (v : Value) (w' : World) : Prop := w'.ownsRow w.heap.size 3 1 v n (nums .i64 K0) ∧ Below w.heap.size w w'

theorem own_low {w : World} {b b' n : Nat} {e : TypeId} {v : Value} {xs : List Value} (h : w.ownsRow b e 1 v n xs) (hb : b' ≤ b) : w.ownsRow b' e 1 v n xs := by
  refine ⟨h.1, ?_⟩
  rcases h.2 with h | ⟨g, cap, cur, h1, h2, h3⟩
  · exact .inl h
  · exact .inr ⟨g, cap, cur, h1, by omega, h3⟩

theorem holds64_below {w w1 : World} {a : Option Addr} {l : List Int} (h : Holds64 w a l) (hb : Below w.heap.size w w1) : Holds64 w1 a l :=
  ⟨h.1, fun hn => by
    obtain ⟨ad, e, hc⟩ := h.2 hn
    exact ⟨ad, e, fun j hj => pw_cell_below hb (hc j hj)⟩⟩

theorem kinds_cloned (w W : World) (hW : Below w.heap.size w W) (a : Option Addr) (cap n : Nat) (l : List Int) (hl : l.length ≤ 100000) (hnl : n = l.length) (hn : a = none → cap = 0) (h : Holds64 w a l) :
    Calls Try.prog 23 #[.slice a n cap] W fun e w' => ∃ v, e = .returned v ∧ Hid (Laid w l l.length v w') := by
  subst hnl
  exact (clone64_any W a cap l hl hn (holds64_below h hW)).mono fun e w' ⟨v, he, ho, hb⟩ => ⟨v, he, own_low ho hW.size, hW.trans (hb.mono hW.size)⟩

theorem laid_kinds {w wc : World} {K0 : List Int} {A : Option Addr} {c : Nat} (h : Laid w K0 K0.length (.slice A K0.length c) wc) (bK : ∀ x ∈ K0, -9223372036854775808 ≤ x ∧ x ≤ 9223372036854775807) : KRow w (.slice A K0.length c) K0.length 0 wc :=
  ⟨K0, rfl, bK, fun i hi => absurd hi (by omega), h.1, h.2⟩

theorem laid_open {w w' : World} {K0 : List Int} {v : Value} (h : Hid (Laid w K0 K0.length v w')) : ∃ A c, v = .slice A K0.length c ∧ Hid (Laid w K0 K0.length (.slice A K0.length c) w') := by
  obtain ⟨A, c, rfl⟩ := own_slice h.out.1
  exact ⟨A, c, rfl, h⟩

theorem calls_at {w : World} {f n : Nat} {a b : Option Addr} {c d nb m : Nat} {Q} (h : Calls Try.prog f #[.slice a nb c, .slice b n d] w Q) (e : m = n) : Calls Try.prog f #[.slice a nb c, .slice b m d] w Q := by rw [e]; exact h

/-- What a round of the second loop begins with. -/
def Go2 (w : World) (B : List Int) (ks : List Nat) (its : List It) (j i nb : Nat) (a : Option Addr) (c : Nat) (wr : World) : Prop := nb = (B.drop i).length ∧ Going w B ks its j i a c wr

theorem go2_spec {w : World} {B : List Int} {ks : List Nat} {its : List It} {j i nb : Nat} {a : Option Addr} {c : Nat} {wr : World} (h : Go2 w B ks its j i nb a c wr) (hB : B.length ≤ 400) {k : Nat} (h6 : k ≤ 6) :
    Calls Try.prog 26 #[.slice a nb c, .int .i64 k] wr (SpecIs k (B.drop i) wr) := by
  obtain ⟨rfl, h⟩ := h
  exact spec_any wr a c (B.drop i) (by rw [List.length_drop]; omega) h.2.2.2.1 h.2.2.1 k h6

theorem go2_next {w : World} {B : List Int} {ks : List Nat} {its : List It} {j i nb : Nat} {a : Option Addr} {c : Nat} {wr : World} (h : Go2 w B ks its j i nb a c wr) (hj : j < ks.length) {k : Nat} (hk : ks[j] = k) (h6 : k ≤ 6) :
    ∀ it m, one k (B.drop i) = some (it, m) → 0 < m → ∃ g off, a = some ⟨g, off, none⟩ ∧ m ≤ nb ∧ ∀ w1, Below wr.heap.size wr w1 → ∀ a' c', (m < nb → a' = some ⟨g, off + m, none⟩) → nb - m ≤ c' → Go2 w B ks (its ++ [it]) (j + 1) (i + m) (nb - m) a' c' w1 := by
  subst hk
  obtain ⟨rfl, h⟩ := h
  intro it m ho h0
  obtain ⟨g, off, h1, h2, h3⟩ := h.next hj h6 ho h0 (Below.refl _ _)
  refine ⟨g, off, h1, h2, fun w1 hb a' c' ha hc => ⟨by simp only [List.length_drop]; omega, ?_⟩⟩
  obtain ⟨g', off', h1', h2', h3'⟩ := h.next hj h6 ho h0 hb
  rw [h1] at h1'
  cases h1'
  exact h3' a' c' ha hc

theorem go2_item {w : World} {B : List Int} {ks : List Nat} {its its' : List It} {r : List Int} {j i nb : Nat} {a : Option Addr} {c : Nat} {wr : World} (h : Go2 w B ks its j i nb a c wr) (hj : j < ks.length) {k : Nat} (hk : ks[j] = k) (hm : many ks B = some (its', r)) :
    ∀ it m, one k (B.drop i) = some (it, m) → ∃ hh : j < its'.length, its'[j] = it := by
  subst hk
  obtain ⟨rfl, h1, h2, h3⟩ := h
  intro it m ho
  have h5 := ahead_step h1 hj ho
  unfold Ahead at h5
  rw [hm] at h5
  obtain ⟨q, _, hq⟩ := Option.map_eq_some_iff.1 h5.symm
  simp only [Prod.mk.injEq] at hq
  obtain ⟨rfl, _⟩ := hq
  subst h2
  refine ⟨by simp, by simp⟩

theorem go2_none {w : World} {B : List Int} {ks : List Nat} {its its' : List It} {r : List Int} {j i nb : Nat} {a : Option Addr} {c : Nat} {wr : World} (h : Go2 w B ks its j i nb a c wr) (hj : j < ks.length) {k : Nat} (hk : ks[j] = k) (hm : many ks B = some (its', r)) :
    one k (B.drop i) ≠ none := by
  subst hk
  intro ho
  have := ahead_none h.2.1 hj ho
  rw [hm] at this
  cases this

theorem same_at {W3 : World} {k : Nat} {n : Int} {l : List Int} {a1 a2 : Option Addr} (h1 : Sl8 W3 a1 l) (h2 : Sl8 W3 a2 l) (c1 c2 : Nat) (W : World) (h : Below W3.heap.size W3 W) :
    Calls Try.prog 27 #[.agg #[.int .i64 k, .int .u64 n, .slice a1 l.length c1], .agg #[.int .i64 k, .int .u64 n, .slice a2 l.length c2]] W fun e w' => e = .returned (.bool true) ∧ Below W3.heap.size W3 w' :=
  (same_true k n l a1 a2 c1 c2 W (h1.below h) (h2.below h)).mono fun e w' ⟨he, hb⟩ => ⟨he, h.trans (hb.mono h.size)⟩

theorem item_here {W : World} {base n : Nat} {A : Option Addr} {c : Nat} {its : List It} (h : Items W base (.slice A n c) its) {j : Nat} (hj : j < its.length) {it : It} (e : its[j] = it) :
    ∃ g a cb, A = some ⟨g, 0, none⟩ ∧ Sl8 W a it.bytes ∧ W.cell? ⟨g, j * 3, none⟩ = some (.int .i64 it.kind) ∧ W.cell? ⟨g, j * 3 + 1, none⟩ = some (.int .u64 it.n) ∧ W.cell? ⟨g, j * 3 + 2, none⟩ = some (.slice a it.bytes.length cb) := by
  subst e
  exact (items_at h).2 j hj

set_option maxHeartbeats 8000000 in
set_option maxRecDepth 100000 in
theorem read_walk (w : World) (a0 : Option Addr) (len0 cap0 : Nat) (B : List Int) (a1 : Option Addr) (len1 cap1 : Nat) (K0 : List Int)
    (h0 : len0 ≤ 2147483647) (h1 : len1 ≤ 2147483647) (hB : B.length = min len0 400) (hK : K0.length = min len1 30) (c0 : len0 ≤ cap0) (c1 : len1 ≤ cap1) (n0 : a0 = none → cap0 = 0) (n1 : a1 = none → cap1 = 0)
    (HB : Holds8 w a0 B) (HK : Holds64 w a1 K0) (bK : ∀ x ∈ K0, -9223372036854775808 ≤ x ∧ x ≤ 9223372036854775807) :
    Calls Try.prog 7 #[.slice a0 len0 cap0, .slice a1 len1 cap1] w fun e w' => e = .returned (.bool true) ∧ Below w.heap.size w w' := by
  have HBH := Lib.hid HB
  have HBK := Lib.hid bK
  have HN0 := Lib.hid n0
  have HN1 := Lib.hid n1
  have HLB := Lib.hid hB
  have HLK := Lib.hid hK
  have b400 : B.length ≤ 400 := by omega
  have b30 : K0.length ≤ 30 := by omega
  have HC64 := Lib.hid fun W hW c hc n hn => kinds_cloned w W hW a1 c n K0 (by omega) hn hc HK
  clear HB HK bK n0 n1 hB hK
  go_enter Try.func7, Try.ntmps7
  go_upto_region 3 with (fail)
  go_cut [0, 1] (fun b ks wc => (∃ c, b = .slice a0 B.length c ∧ B.length ≤ c ∧ (a0 = none → c = 0)) ∧ ∃ A c, ks = .slice A K0.length c ∧ Hid (Laid w K0 K0.length (.slice A K0.length c) wc))
  case first =>
    clear HBH HBK
    by_cases g0 : len0 ≤ 400
    · by_cases g1 : len1 ≤ 30
      · obtain rfl : len0 = B.length := by have := HLB.out; omega
        obtain rfl : len1 = K0.length := by have := HLK.out; omega
        have i0 : ((400 : Int) < (B.length : Int)) = False := by simp; omega
        have i1 : ((30 : Int) < (K0.length : Int)) = False := by simp; omega
        go_region_with (refine (HC64.out _ (by go_grown) cap1 HN1.out K0.length rfl).mono ?_; rintro e w1 ⟨v, rfl, HP⟩)
        all_goals go_wp2_with fail
        all_goals go_meet
        all_goals exact ⟨⟨cap0, rfl, by omega, HN0.out⟩, laid_open HP⟩
      · obtain rfl : len0 = B.length := by have := HLB.out; omega
        have HKE : Hid (30 = K0.length) := by have := HLK.out; exact (by omega : 30 = K0.length)
        have i4 : 30 ≤ cap1 := by omega
        have i5 : (30 : Int) ≤ (cap1 : Int) := by omega
        have i0 : ((400 : Int) < (B.length : Int)) = False := by simp; omega
        have i1 : ((30 : Int) < (len1 : Int)) = True := by simp; omega
        go_region_with (refine (HC64.out _ (by go_grown) cap1 HN1.out 30 HKE.out).mono ?_; rintro e w1 ⟨v, rfl, HP⟩)
        all_goals go_wp2_with fail
        all_goals go_meet
        all_goals exact ⟨⟨cap0, rfl, by omega, HN0.out⟩, laid_open HP⟩
    · by_cases g1 : len1 ≤ 30
      · have HLE : Hid (B.length = 400) := by have := HLB.out; exact (by omega : B.length = 400)
        have i2 : 400 ≤ cap0 := by omega
        have i3 : (400 : Int) ≤ (cap0 : Int) := by omega
        obtain rfl : len1 = K0.length := by have := HLK.out; omega
        have i0 : ((400 : Int) < (len0 : Int)) = True := by simp; omega
        have i1 : ((30 : Int) < (K0.length : Int)) = False := by simp; omega
        go_region_with (refine (HC64.out _ (by go_grown) cap1 HN1.out K0.length rfl).mono ?_; rintro e w1 ⟨v, rfl, HP⟩)
        all_goals go_wp2_with fail
        all_goals go_meet
        all_goals exact ⟨⟨cap0, by rw [HLE.out], by omega, HN0.out⟩, laid_open HP⟩
      · have HLE : Hid (B.length = 400) := by have := HLB.out; exact (by omega : B.length = 400)
        have i2 : 400 ≤ cap0 := by omega
        have i3 : (400 : Int) ≤ (cap0 : Int) := by omega
        have HKE : Hid (30 = K0.length) := by have := HLK.out; exact (by omega : 30 = K0.length)
        have i4 : 30 ≤ cap1 := by omega
        have i5 : (30 : Int) ≤ (cap1 : Int) := by omega
        have i0 : ((400 : Int) < (len0 : Int)) = True := by simp; omega
        have i1 : ((30 : Int) < (len1 : Int)) = True := by simp; omega
        go_region_with (refine (HC64.out _ (by go_grown) cap1 HN1.out 30 HKE.out).mono ?_; rintro e w1 ⟨v, rfl, HP⟩)
        all_goals go_wp2_with fail
        all_goals go_meet
        all_goals exact ⟨⟨cap0, by rw [HLE.out], by omega, HN0.out⟩, laid_open HP⟩
  case rest =>
    obtain ⟨⟨c, rfl, hc, hn⟩, A, ck, rfl, HL⟩ := hcut
    have HN := Lib.hid hn
    have HK0 := Lib.hid (laid_kinds HL.out HBK.out)
    clear hn HL HC64 HLB HLK HBK HN0 HN1 h0 h1 c0 c1
    go_wp2_with fail
    go_loopw [35] (fun n wr => ∃ j : Nat, j ≤ K0.length ∧ n = .int .i64 j ∧ Hid (KRow w (.slice A K0.length ck) K0.length j wr)) (fun n _ => K0.length - (intOf n).toNat)
    case atStart => exact ⟨0, Nat.zero_le _, rfl, HK0⟩
    case round =>
      obtain ⟨j, hj, rfl, HI⟩ := hrel
      clear HK0
      by_cases hlt : j < K0.length
      · obtain ⟨g, x, rfl, hg, hcell, hfz, hx0, hx1, hnext⟩ := HI.out.at hlt
        have HX := Lib.hid hnext
        clear hnext hg
        go_wp2_with fail
        refine (below_any x _ hx0 hx1).mono ?_
        rintro e w1 ⟨k, hk, rfl, rfl⟩
        have HY := Lib.hid (HX.out k hk _ rfl)
        clear HX hk
        go_wp2_with fail
        go_roundw
        case rel => first | exact ⟨j + 1, by omega, by go_num, HY⟩ | ((repeat apply Exists.intro); exact ⟨⟨j + 1, by omega, by go_num, HY⟩, rfl⟩)
        case measure => simp [intOf]; omega
      · obtain rfl : j = K0.length := by omega
        obtain ⟨ks, hkl, hkk, hbl, hkc, _⟩ := HI.out.done
        have HC := Lib.hid (clone_any wr a0 c B (by omega) HN.out (holds_below HBH.out hbl))
        have HKK := Lib.hid hkk
        have HBL := Lib.hid hbl
        have HKL := Lib.hid hkl
        clear hkl hkk hbl hkc HI
        go_wp2_with fail
        refine HC.out.mono ?_
        rintro e w1 ⟨v, rfl, ho, hb1⟩
        obtain ⟨A1, c1, rfl⟩ := own_slice ho
        have hro := row_open ho
        have HB1 := Lib.hid hb1
        have HR := Lib.hid (calls_at (m := K0.length) (read_any w1 A1 c1 B A ck ks (by omega) (by have := HKL.out; omega) hro.2.1 (row_holds HBH.out.1 (by omega) ho) (fun ad e => by obtain ⟨g, h1, _, h2⟩ := hro.2.2.2 ad e; exact ⟨g, h1, h2⟩) (HKK.out.below hb1)) HKL.out.symm)
        clear ho hb1 hro HC
        go_wp2_with fail
        refine HR.out.mono ?_
        intro e w2 hp
        have HP := Lib.hid hp
        clear hp HR
        cases hm : many ks B with
        | none =>
          have HM := Lib.hid hm
          obtain ⟨rfl, hb2⟩ : ReadNo w1 e w2 := by have := HP.out; rw [hm] at this; exact this
          have HBL2 := Lib.hid (HBL.out.trans ((HB1.out.trans (hb2.mono HB1.out.size)).mono HBL.out.size))
          have HKK2 := Lib.hid ((HKK.out.below HB1.out).below hb2)
          have HS2 := Lib.hid (holds_sl8 (holds_below HBH.out HBL2.out))
          clear hm hb2 HP HBL HB1 HKK HBH
          go_wp2_with fail
          go_loopw [0, 56] (fun b n wq => ∃ (j i : Nat) (its : List It) (a : Option Addr) (cb nb : Nat), j ≤ K0.length ∧ n = .int .i64 j ∧ b = .slice a nb cb ∧ nb ≤ cb ∧ nb ≤ 400 ∧ Hid (Go2 w2 B ks its j i nb a cb wq)) (fun _ n _ => K0.length - (intOf n).toNat)
          case atStart => exact ⟨0, 0, [], a0, c, B.length, Nat.zero_le _, rfl, rfl, hc, b400, ⟨rfl, ahead_start ks B, rfl, HS2.out, hc, Below.refl _ _⟩⟩
          case round =>
            obtain ⟨j, i, its, a, cb, nb, hj, rfl, rfl, hcb, hnb, HI⟩ := hrel
            by_cases hlt : j < K0.length
            · have hltk : j < ks.length := by rw [HKL.out]; exact hlt
              obtain ⟨ad, rfl, hcA⟩ := HKK2.out.2 (by omega)
              obtain ⟨k, hkk⟩ : ∃ k, ks[j] = k := ⟨_, rfl⟩
              have hkind : wr.cell? (ad.add j) = some (.int .i64 (k : Nat)) := by rw [← hkk]; exact pw_cell_below HI.out.2.2.2.2.2 (hcA j hltk)
              have hk6 : k ≤ 6 := by rw [← hkk]; exact HKK2.out.1 _ (List.getElem_mem hltk)
              have HSP := Lib.hid (go2_spec HI.out b400 hk6)
              have HNX := Lib.hid (go2_next HI.out hltk hkk hk6)
              have HBW := Lib.hid (HBL2.out.trans (HI.out.2.2.2.2.2.mono HBL2.out.size))
              clear hcA hkk hk6 HI
              go_wp2_with fail
              refine HSP.out.mono ?_
              rintro e w3 ⟨N, n, a2, l2, cl, rfl, hs3, hb3, hcase⟩
              have HW3 := Lib.hid (HBW.out.trans (hb3.mono HBW.out.size))
              have HB3 := Lib.hid hb3
              clear hs3 hb3 HSP HBW
              rcases hcase with hneg | ⟨rfl, hno⟩ | ⟨m, hm0, rfl, hso⟩
              · go_wp2_with fail
                go_returns
                exact ⟨rfl, by have h := HW3.out; have h' := h.size; go_grown⟩
              · have HNO := Lib.hid hno
                clear hno
                go_wp2_with fail
                go_returns
                exact ⟨rfl, by have h := HW3.out; have h' := h.size; go_grown⟩
              · obtain ⟨g, off, rfl, hmle, hnext⟩ := HNX.out _ _ hso hm0
                have hAr : Below wr.heap.size wr (w3.alloc (.cells #[.int .i64 k, .int .u64 N, .slice a2 l2.length cl] 58)) := HB3.out.alloc HB3.out.size _
                have HNN := Lib.hid fun w1 (hb : Below (w3.alloc (.cells #[.int .i64 k, .int .u64 N, .slice a2 l2.length cl] 58)).heap.size (w3.alloc (.cells #[.int .i64 k, .int .u64 N, .slice a2 l2.length cl] 58)) w1) => hnext w1 (hAr.trans (hb.mono hAr.size))
                clear hso hnext HNX hAr
                go_wp2_with fail
                go_quiet (fail)
                go_wp2
                all_goals
                  go_roundw
                  case rel => first | exact ⟨j + 1, i + m, _, _, _, nb - m, by omega, by go_num, rfl, by omega, by omega, HNN.out _ (below_drewN (Below.refl _ _) _) _ _ (fun h => if_neg (by omega)) (by omega)⟩ | ((repeat apply Exists.intro); exact ⟨⟨j + 1, i + m, _, _, _, nb - m, by omega, by go_num, rfl, by omega, by omega, HNN.out _ (below_drewN (Below.refl _ _) _) _ _ (fun h => if_neg (by omega)) (by omega)⟩, rfl⟩)
                  case measure => simp [intOf]; omega
            · obtain rfl : j = K0.length := by omega
              have hx := ahead_end HI.out.2.1 HKL.out.symm
              rw [HM.out] at hx
              cases hx
        | some p =>
          obtain ⟨its', r⟩ := p
          have HM := Lib.hid hm
          obtain ⟨v, ar, cr, rfl, hit, hsr, hb2⟩ : ReadYes its' r w1 e w2 := by have := HP.out; rw [hm] at this; exact this
          obtain ⟨AI, cI, rfl⟩ : ∃ A c, v = .slice A its'.length c := by obtain ⟨q, _, ho, _⟩ := hit; exact own_slice ho
          have HBL2 := Lib.hid (HBL.out.trans ((HB1.out.trans (hb2.mono HB1.out.size)).mono HBL.out.size))
          have HKK2 := Lib.hid ((HKK.out.below HB1.out).below hb2)
          have HS2 := Lib.hid (holds_sl8 (holds_below HBH.out HBL2.out))
          have HIT := Lib.hid hit
          have HSR := Lib.hid hsr
          clear hm hb2 hit hsr HP HBL HB1 HKK HBH
          go_wp2_with fail
          go_loopw [0, 56] (fun b n wq => ∃ (j i : Nat) (its : List It) (a : Option Addr) (cb nb : Nat), j ≤ K0.length ∧ n = .int .i64 j ∧ b = .slice a nb cb ∧ nb ≤ cb ∧ nb ≤ 400 ∧ Hid (Go2 w2 B ks its j i nb a cb wq)) (fun _ n _ => K0.length - (intOf n).toNat)
          case atStart => exact ⟨0, 0, [], a0, c, B.length, Nat.zero_le _, rfl, rfl, hc, b400, ⟨rfl, ahead_start ks B, rfl, HS2.out, hc, Below.refl _ _⟩⟩
          case round =>
            obtain ⟨j, i, its, a, cb, nb, hj, rfl, rfl, hcb, hnb, HI⟩ := hrel
            by_cases hlt : j < K0.length
            · have hltk : j < ks.length := by rw [HKL.out]; exact hlt
              obtain ⟨ad, rfl, hcA⟩ := HKK2.out.2 (by omega)
              obtain ⟨k, hkk⟩ : ∃ k, ks[j] = k := ⟨_, rfl⟩
              have hkind : wr.cell? (ad.add j) = some (.int .i64 (k : Nat)) := by rw [← hkk]; exact pw_cell_below HI.out.2.2.2.2.2 (hcA j hltk)
              have hk6 : k ≤ 6 := by rw [← hkk]; exact HKK2.out.1 _ (List.getElem_mem hltk)
              have HSP := Lib.hid (go2_spec HI.out b400 hk6)
              have HNX := Lib.hid (go2_next HI.out hltk hkk hk6)
              have HJT := Lib.hid (go2_item HI.out hltk hkk HM.out)
              have HJN := Lib.hid (go2_none HI.out hltk hkk HM.out)
              have HW2 := Lib.hid HI.out.2.2.2.2.2
              clear hcA hkk hk6 HI
              go_wp2_with fail
              refine HSP.out.mono ?_
              rintro e w3 ⟨N, n, a2, l2, cl, rfl, hs3, hb3, hcase⟩
              have HW3 := Lib.hid (HW2.out.trans (hb3.mono HW2.out.size))
              have HB3 := Lib.hid hb3
              have HS3 := Lib.hid hs3
              have HBW := Lib.hid (HBL2.out.trans (HW3.out.mono HBL2.out.size))
              clear hs3 hb3 HSP HW2
              rcases hcase with hneg | ⟨rfl, hno⟩ | ⟨m, hm0, rfl, hso⟩
              · go_wp2_with fail
                go_returns
                exact ⟨rfl, by have h := HBW.out; have h' := h.size; go_grown⟩
              · exact absurd hno HJN.out
              · obtain ⟨g, off, rfl, hmle, hnext⟩ := HNX.out _ _ hso hm0
                obtain ⟨hji, hjt⟩ := HJT.out _ _ hso
                have hA3 : Below w3.heap.size w3 (w3.alloc (.cells #[.int .i64 k, .int .u64 N, .slice a2 l2.length cl] 58)) := (Below.refl _ _).alloc (Nat.le_refl _) _
                have hAw : Below w2.heap.size w2 (w3.alloc (.cells #[.int .i64 k, .int .u64 N, .slice a2 l2.length cl] 58)) := HW3.out.alloc HW3.out.size _
                have hAr : Below wr.heap.size wr (w3.alloc (.cells #[.int .i64 k, .int .u64 N, .slice a2 l2.length cl] 58)) := HB3.out.alloc HB3.out.size _
                obtain ⟨gI, aI, cbI, rfl, hsI, e0, e1, e2⟩ := item_here (HIT.out.below hAw) hji hjt
                have HNN := Lib.hid fun w1 (hb : Below (w3.alloc (.cells #[.int .i64 k, .int .u64 N, .slice a2 l2.length cl] 58)).heap.size (w3.alloc (.cells #[.int .i64 k, .int .u64 N, .slice a2 l2.length cl] 58)) w1) => hnext w1 (hAr.trans (hb.mono hAr.size))
                have HSM := Lib.hid (same_at (k := k) (n := N) hsI (HS3.out.below hA3) cbI cl)
                clear hso hnext HNX HJT HJN hjt hsI hA3 hAw hAr
                simp only at e0 e1 e2
                have d0 : decide ((its'.length : Int) ≤ (j : Int)) = false := by simp; omega
                have x0 : (w3.alloc (.cells #[.int .i64 k, .int .u64 N, .slice a2 l2.length cl] 58)).cell? ⟨w3.heap.size, 0, none⟩ = some (.int .i64 k) := by simp
                have x1 : (w3.alloc (.cells #[.int .i64 k, .int .u64 N, .slice a2 l2.length cl] 58)).cell? ⟨w3.heap.size, 1, none⟩ = some (.int .u64 N) := by simp
                have x2 : (w3.alloc (.cells #[.int .i64 k, .int .u64 N, .slice a2 l2.length cl] 58)).cell? ⟨w3.heap.size, 2, none⟩ = some (.slice a2 l2.length cl) := by simp
                have HX := Lib.hid x0
                have HX1 := Lib.hid x1
                have HX2 := Lib.hid x2
                have HE0 := Lib.hid e0
                have HE1 := Lib.hid e1
                have HE2 := Lib.hid e2
                clear e0 e1 e2 x0 x1 x2
                go_wp2_with fail
                generalize hwq : (w3.alloc (.cells #[.int .i64 k, .int .u64 N, .slice a2 l2.length cl] 58)) = wq at HX HX1 HX2 HE0 HE1 HE2 HNN HSM ⊢
                have x0 := HX.out
                have x1 := HX1.out
                have x2 := HX2.out
                have e0 := HE0.out
                have e1 := HE1.out
                have e2 := HE2.out
                clear hwq HX HX1 HX2 HE0 HE1 HE2
                go_still_tail 12, (by kernel_rfl)
                change wpList _ _ _ _ _ wq.drew
                go_wp2_with fail
                refine (HSM.out _ ((Below.refl _ _).drew)).mono ?_
                rintro e w4 ⟨rfl, hb4⟩
                have HB4 := Lib.hid hb4
                clear hb4 x0 x1 x2 e0 e1 e2 HSM
                go_wp2_with fail
                all_goals
                  go_roundw
                  case rel => first | exact ⟨j + 1, i + m, _, _, _, nb - m, by omega, by go_num, rfl, by omega, by omega, HNN.out _ HB4.out _ _ (fun h => if_neg (by omega)) (by omega)⟩ | ((repeat apply Exists.intro); exact ⟨⟨j + 1, i + m, _, _, _, nb - m, by omega, by go_num, rfl, by omega, by omega, HNN.out _ HB4.out _ _ (fun h => if_neg (by omega)) (by omega)⟩, rfl⟩)
                  case measure => simp [intOf]; omega
            · obtain rfl : j = K0.length := by omega
              have hx := ahead_end HI.out.2.1 HKL.out.symm
              rw [HM.out] at hx
              obtain ⟨e1, e2⟩ : its' = its ∧ r = B.drop i := by simpa using hx
              have hlen : its'.length = K0.length := by rw [e1]; exact HI.out.2.2.1
              have hW : Below w2.heap.size w2 wr := HI.out.2.2.2.2.2
              have hnr : nb = r.length := by rw [e2]; exact HI.out.1
              have hsb : Sl8 wr a r := by rw [e2]; exact HI.out.2.2.2.1
              have HBW := Lib.hid (HBL2.out.trans (hW.mono HBL2.out.size))
              subst hnr
              have cv1 := sl8_string (HSR.out.below hW) cr
              have cv2 := sl8_string hsb cb
              have hbeq : ((its'.length : Int) == (K0.length : Int)) = true := by rw [hlen]; simp
              clear hx e1 e2 hlen hW hsb HI
              go_wp2_with fail
              go_returns
              exact ⟨rfl, HBW.out⟩

end Go.Proofs.Ytobponaenabpgaa.Rd
