/- The contract of the thin package's Read. -/
import Derived.Test.YtobponaenabpgaaRdItems
import Derived.Lib.ConvBytes
namespace Go.Proofs.Ytobponaenabpgaa.Rd
open Go.ChangeShapes Go.WideShapes Go.ChangeAt Go.RowKit Sv Go.Proofs.YtobponaenabpgaaW Go.Proofs.YtobponaenabpgaaW.PrintWords
set_option linter.unusedVariables false

/-- The kinds that a slice holds. -/
def Kinds (w : World) (a : Option Addr) (ks : List Nat) : Prop := (∀ k ∈ ks, k ≤ 6) ∧ (0 < ks.length → ∃ ad, a = some ad ∧ ∀ j (h : j < ks.length), w.cell? (ad.add j) = some (.int .i64 (ks[j] : Nat)))

def ReadYes (its : List It) (r : List Int) (w : World) (e : Ending) (w' : World) : Prop :=
  ∃ v a c, e = .returned (.tuple #[v, .slice a r.length c, .bool true]) ∧ Items w' (w.heap.size + 1) v its ∧ Sl8 w' a r ∧ Below w.heap.size w w'
def ReadNo (w : World) (e : Ending) (w' : World) : Prop :=
  e = .returned (.tuple #[.slice none 0 0, .slice none 0 0, .bool false]) ∧ Below w.heap.size w w'
def ReadPost (o : Option (List It × List Int)) (w : World) (e : Ending) (w' : World) : Prop := match o with
  | none => ReadNo w e w'
  | some p => ReadYes p.1 p.2 w e w'

theorem IsBuf.low {w w1 : World} {B : Nat} {A : Option Addr} {cap : Nat} {b : List Int} {i : Nat} (h : IsBuf w B A cap b i) (hA : ∀ ad, A = some ad → ∃ g, ad = ⟨g, 0, none⟩ ∧ g < B) (hb : Below (B + 1) w w1) : IsBuf w1 B A cap b i where
  c0 := (hb.cell (p := ⟨B, 0, none⟩) (Nat.lt_succ_self B)).trans h.c0
  c1 := (hb.cell (p := ⟨B, 1, none⟩) (Nat.lt_succ_self B)).trans h.c1
  f1 := (hb.frozen (p := ⟨B, 1, none⟩) (Nat.lt_succ_self B)).trans h.f1
  le := h.le
  small := h.small
  room := h.room
  holds := ⟨h.holds.1, h.holds.2.1, fun hn => by
    obtain ⟨ad, e, hc⟩ := h.holds.2.2 hn
    obtain ⟨g, rfl, hg⟩ := hA ad e
    refine ⟨_, e, fun j hj => (hb.cell ?_).trans (hc j hj)⟩
    rw [PrintWords.add_plain]
    exact Nat.lt_succ_of_lt hg⟩
  ne := h.ne

/-- What holds ahead of each round. -/
def Inv (w : World) (A : Option Addr) (cap : Nat) (b : List Int) (ks : List Nat) (j i : Nat) (v : Value) (its : List It) (wr : World) : Prop :=
  Ahead ks b its j i ∧ IsBuf wr w.heap.size A cap b i ∧ Items wr (w.heap.size + 1) v its ∧ Below w.heap.size w wr ∧ its.length = j

theorem grown_set {w w1 : World} {B : Nat} (hg : w.grownBy w1 (some B)) {p : Addr} (hp : w.heap.size ≤ p.block) (u : Value) : w.grownBy (w1.setCell p u) (some B) :=
  ⟨hg.os, hg.tape, hg.output, by simpa using hg.size, fun k hk hne => (Below.heap_setCell w1 p u k (by omega)).trans (hg.block k hk hne)⟩
theorem grown_drew {w w1 : World} {B : Nat} (hg : w.grownBy w1 (some B)) : w.grownBy w1.drew (some B) := ⟨hg.os, hg.tape, hg.output, hg.size, hg.block⟩

/-- A round that goes on. -/
theorem inv_next {w wr W w2 : World} {A : Option Addr} {cap : Nat} {b : List Int} {ks : List Nat} {j i : Nat} {v v1 : Value} {its : List It} (HI : Inv w A cap b ks j i v its wr) (hj : j < ks.length) {k : Nat} (hk : ks[j] = k) {it : It} {m : Nat} (ho : one k (b.drop i) = some (it, m))
    (hA : ∀ ad, A = some ad → ∃ g, ad = ⟨g, 0, none⟩ ∧ g < w.heap.size)
    (hbW : IsBuf W w.heap.size A cap b (i + m)) (hgW : wr.grownBy W (some w.heap.size)) (hit : Items w2 (w.heap.size + 1) v1 (its ++ [it])) (h2 : Below (w.heap.size + 1) W w2) : Inv w A cap b ks (j + 1) (i + m) v1 (its ++ [it]) w2 := by
  obtain ⟨hah, hbuf, _, hbel, hlen⟩ := HI
  have hl := hbuf.lt
  subst hk
  exact ⟨ahead_step hah hj ho, hbW.low hA h2, hit, (hbel.grown hgW hbel.size (by intro k hk; simp at hk; omega)).trans (h2.mono (by omega)), by simp [hlen]⟩

theorem inv_stop {w wr W : World} {A : Option Addr} {cap : Nat} {b : List Int} {ks : List Nat} {j i : Nat} {v : Value} {its : List It} (HI : Inv w A cap b ks j i v its wr) (hj : j < ks.length) {k : Nat} (hk : ks[j] = k) (ho : one k (b.drop i) = none)
    (hgW : wr.grownBy W (some w.heap.size)) : ReadPost (many ks b) w (.returned (.tuple #[.slice none 0 0, .slice none 0 0, .bool false])) W := by
  obtain ⟨hah, hbuf, _, hbel, hlen⟩ := HI
  subst hk
  rw [ahead_none hah hj ho]
  exact ⟨rfl, hbel.grown hgW hbel.size (by intro k hk; simp at hk; omega)⟩

/-- The value that a round begins. -/
abbrev laid (wr : World) (k : Nat) : World := wr.alloc (.cells #[.int .i64 k, .int .u64 0, .slice none 0 0] 62)

theorem laid_facts {wr w1 : World} {B k : Nat} (hB : B < wr.heap.size) (hg : (laid wr k).grownBy w1 (some B)) :
    w1.cell? ⟨wr.heap.size, 0, none⟩ = some (.int .i64 k) ∧ w1.cell? ⟨wr.heap.size, 1, none⟩ = some (.int .u64 0) ∧ w1.cell? ⟨wr.heap.size, 2, none⟩ = some (.slice none 0 0) ∧
    w1.frozen? ⟨wr.heap.size, 0, none⟩ = false ∧ w1.frozen? ⟨wr.heap.size, 1, none⟩ = false ∧ w1.frozen? ⟨wr.heap.size, 2, none⟩ = false ∧ wr.heap.size < w1.heap.size ∧ wr.grownBy w1 (some B) := by
  have hne : some wr.heap.size ≠ some B := by simp; omega
  have hlt : ∀ o, (⟨wr.heap.size, o, none⟩ : Addr).block < (laid wr k).heap.size := fun o => by simp
  refine ⟨?_, ?_, ?_, ?_, ?_, ?_, ?_, ?_⟩
  · rw [hg.cell_far _ (hlt 0) hne]; simp
  · rw [hg.cell_far _ (hlt 1) hne]; simp
  · rw [hg.cell_far _ (hlt 2) hne]; simp
  · rw [hg.frozen_far _ (hlt 0) hne]; simp
  · rw [hg.frozen_far _ (hlt 1) hne]; simp
  · rw [hg.frozen_far _ (hlt 2) hne]; simp
  · have := hg.size; simp at this; omega
  · exact World.grownBy.trans (World.grownBy_alloc _ _ _) hg

theorem laid_buf {w wr : World} {A : Option Addr} {cap : Nat} {b : List Int} {ks : List Nat} {j i : Nat} {v : Value} {its : List It} (HI : Inv w A cap b ks j i v its wr) (k : Nat) : IsBuf (laid wr k) w.heap.size A cap b i :=
  HI.2.1.below ((Below.refl _ _).alloc (Nat.le_refl _) _)

theorem inv_end {w wr w1 : World} {A : Option Addr} {cap : Nat} {b : List Int} {ks : List Nat} {i : Nat} {v : Value} {its : List It} (HI : Inv w A cap b ks ks.length i v its wr) {a : Option Addr}
    (h1 : Below wr.heap.size wr w1) (hs : Sl8 w1 a (b.drop i)) (c : Nat) : ReadPost (many ks b) w (.returned (.tuple #[v, .slice a (b.length - i) c, .bool true])) w1 := by
  obtain ⟨hah, hbuf, hit, hbel, hlen⟩ := HI
  rw [ahead_end hah rfl]
  exact ⟨v, a, c, by rw [show (its, List.drop i b).2.length = b.length - i from List.length_drop], hit.below h1, hs, below_two hbel h1⟩

def RestIs (b : List Int) (i : Nat) (w : World) (e : Ending) (w' : World) : Prop := ∃ a c, e = .returned (.slice a (b.length - i) c) ∧ Sl8 w' a (b.drop i) ∧ Below w.heap.size w w'

theorem rest_any2 {w wr : World} {A : Option Addr} {cap : Nat} {b : List Int} {ks : List Nat} {j i : Nat} {v : Value} {its : List It} (HI : Inv w A cap b ks j i v its wr) (hA : ∀ ad, A = some ad → ∃ g, ad = ⟨g, 0, none⟩ ∧ g < w.heap.size) :
    Calls Try.prog 54 #[.pointer (some ⟨w.heap.size, 0, none⟩)] wr (RestIs b i wr) := by
  have hb := HI.2.1
  have le := hb.le
  have hlen : (b.drop i).length = b.length - i := List.length_drop
  cases A with
  | none =>
    have hz : b.length = 0 := by
      rcases Nat.eq_zero_or_pos b.length with h | h
      · exact h
      · obtain ⟨ad, e, _⟩ := hb.holds.2.2 h
        cases e
    obtain rfl : b = [] := List.eq_nil_of_length_eq_zero hz
    obtain rfl : i = 0 := by simpa using le
    refine (rest_nil wr _ cap hb.c0 hb.c1).mono ?_
    rintro e w1 ⟨rfl, h⟩
    exact ⟨_, _, rfl, ⟨fun x hx => by simp at hx, fun h => by simp at h⟩, h⟩
  | some ad =>
    obtain ⟨g, rfl, hg⟩ := hA ad rfl
    refine (rest_some wr _ g cap b.length i hb.small le hb.room hb.c0 hb.c1).mono ?_
    rintro e w1 ⟨a, c, ha, rfl, h⟩
    refine ⟨_, _, rfl, ⟨bytes_drop hb.holds.1 i, fun h0 => ?_⟩, h⟩
    obtain rfl := ha (by omega)
    obtain ⟨g', e', hg', hc⟩ := form _ _ _ _ _ _ hb (by omega)
    simp only [Option.some.injEq, Addr.mk.injEq, and_true] at e'
    subst e'
    exact ⟨g, i, rfl, fun j hj => pw_cell_below h (hc j (by omega))⟩

theorem blk_set {w : World} {base : Nat} {a : Option Addr} {l : List Int} (h : ByteBlk w base a l) {p : Addr} (hp : p.block < base) (u : Value) : ByteBlk (w.setCell p u) base a l :=
  h.keep fun g cs fz hb hh => heap_setCell_other w p g u (by omega)

theorem rb_bytes {r : List Int} (hB : Bytes8 r) {l : List Int} {m : Nat} (h : rb r = some (l, m)) : Bytes8 l := by
  obtain ⟨k, _, _, _, hl⟩ := rb_open hB h
  rw [hl]
  exact bytes_take (bytes_drop hB k) _

theorem size_str (l : List Int) : (strOfNums l).size = l.length := by simp [strOfNums, ByteArray.size]

theorem conv_l {l : List Int} (hB : Bytes8 l) (W : World) : (convert 9 23 (.string (strOfNums l))).run Try.prog W = .ok (.slice (some ⟨W.heap.size, 0, none⟩) l.length (grownCap W l.length 0 5)) (Lib.bytesWorld W 5 (strOfNums l)) := by
  have := Lib.run_convert_string_bytes (P := Try.prog) W 9 23 5 (strOfNums l) Try.underlying9 Try.underlying23 Try.underlying5
  rwa [size_str] at this
theorem conv_nil (W : World) : (convert 9 23 (.string ByteArray.empty)).run Try.prog W = .ok (.slice (some ⟨W.heap.size, 0, none⟩) 0 (grownCap W 0 0 5)) (Lib.bytesWorld W 5 ByteArray.empty) :=
  Lib.run_convert_string_bytes (P := Try.prog) W 9 23 5 ByteArray.empty Try.underlying9 Try.underlying23 Try.underlying5

theorem below_bytes (w : World) (s : ByteArray) : Below w.heap.size w (Lib.bytesWorld w 5 s) :=
  ⟨rfl, rfl, rfl, by rw [Lib.bytesWorld_size]; omega, fun k hk => Lib.bytesWorld_at_old w 5 s k hk⟩

theorem blk_conv (w : World) {l : List Int} (hB : Bytes8 l) : ByteBlk (Lib.bytesWorld w 5 (strOfNums l)) w.heap.size (some ⟨w.heap.size, 0, none⟩) l :=
  ⟨hB, fun hn => ⟨w.heap.size, _, _, rfl, Nat.le_refl _, Lib.bytesWorld_at_new w 5 (strOfNums l), fun j hj => by
    have hb := at8_bd hB j
    have hs : (strOfNums l).data.size = l.length := by simp [strOfNums]
    have e : at8 l j = l[j] := by simp [at8, List.getD_eq_getElem?_getD, List.getElem?_eq_getElem hj]
    rw [e] at hb
    simp only [Lib.bytesCells]
    rw [Array.getElem?_append_left (by simp [hs]; exact hj)]
    simp [strOfNums, List.getElem?_eq_getElem hj, e]
    omega⟩⟩

theorem blk_nil (w : World) (base : Nat) : ByteBlk w base none [] := ⟨fun x hx => by simp at hx, fun h => by simp at h⟩

theorem one_num {k : Nat} (hk : k ≤ 4) {r : List Int} : one k r = (num k r).map (fun p => (⟨k, p.1, []⟩, p.2)) := by unfold one; rw [if_pos hk]
theorem one_raw {k : Nat} (hk : ¬ k ≤ 4) {r : List Int} : one k r = (rb r).map (fun p => (⟨k, 0, p.1⟩, p.2)) := by unfold one; rw [if_neg hk]

set_option maxHeartbeats 4000000 in
set_option maxRecDepth 100000 in
theorem read_any (w : World) (A : Option Addr) (cap : Nat) (b : List Int) (ak : Option Addr) (capk : Nat) (ks : List Nat) (hs : b.length ≤ 100000) (hk : ks.length ≤ 1000) (hcap : b.length ≤ cap)
    (hb : Holds8 w A b) (hne : ∀ ad, A = some ad → ∃ g, ad = ⟨g, 0, none⟩ ∧ g < w.heap.size) (hks : Kinds w ak ks) :
    Calls Try.prog 25 #[.slice A b.length cap, .slice ak ks.length capk] w (ReadPost (many ks b) w) := by
  have HK := Lib.hid hks
  have HB := Lib.hid hb
  have HN := Lib.hid hne
  have HW := Lib.hid hcap
  clear hks hb hne hcap
  go_enter Try.func25, Try.ntmps25
  go_wp2
  go_loopw [4, 17] (fun v n wr => ∃ (j i : Nat) (its : List It), j ≤ ks.length ∧ n = .int .i64 j ∧ Hid (Inv w A cap b ks j i v its wr)) (fun _ n _ => ks.length - (intOf n).toNat)
  case atStart =>
    refine ⟨0, 0, [], Nat.zero_le _, rfl, ahead_start ks b, ?_, Items.nil _ _, (Below.refl _ _).alloc (Nat.le_refl _) _, rfl⟩
    exact { c0 := by simp, c1 := by simp, f1 := by simp, le := Nat.zero_le _, small := hs, room := HW.out, holds := holds_below HB.out ((Below.refl _ _).alloc (Nat.le_refl _) _), ne := fun ad e => by obtain ⟨g, rfl, hg⟩ := HN.out ad e; exact ⟨g, rfl, by omega⟩ }
  case round =>
    obtain ⟨j, i, its, hj, rfl, HI⟩ := hrel
    obtain ⟨hah, hbuf, hit, hbel, hlen⟩ := HI.out
    have hBs := hbuf.lt
    have hil : its.length ≤ 1000 := by omega
    clear hah hbuf hit hlen
    by_cases hlt : j < ks.length
    · obtain ⟨ad, rfl, hc⟩ := HK.out.2 (by omega)
      have hkind : wr.cell? (ad.add j) = some (.int .i64 (ks[j] : Nat)) := pw_cell_below hbel (hc j hlt)
      have hk6 : ks[j] ≤ 6 := HK.out.1 _ (List.getElem_mem hlt)
      generalize hkk : ks[j] = k at *
      clear hc hbel
      have HKK := Lib.hid hkk
      clear hkk
      have hcs : k = 0 ∨ k = 1 ∨ k = 2 ∨ k = 3 ∨ k = 4 ∨ k = 5 ∨ k = 6 := by omega
      clear hk6
      rcases hcs with rfl | rfl | rfl | rfl | rfl | rfl | rfl
      · cases ho : one 0 (b.drop i) with
        | none =>
          have HO := Lib.hid ho
          have hd : num 0 (b.drop i) = none := by rw [one_num (by decide)] at ho; simpa using ho
          have HD := Lib.hid hd
          clear ho hd
          go_wp2_with fail
          refine (num_none _ w.heap.size A cap b i (laid_buf HI.out 0) 0 (by decide) HD.out).mono ?_
          rintro e w1 ⟨x, s, rfl, hg⟩
          obtain ⟨q0, q1, q2, g0, g1, g2, hsz, hgw⟩ := laid_facts hBs hg
          have HG := Lib.hid hgw
          clear hg hgw
          go_wp2
          go_returns
          exact inv_stop HI.out hlt HKK.out HO.out (grown_set HG.out (Nat.le_refl _) _)
        | some p =>
          have HO := Lib.hid ho
          obtain ⟨x, m, hd, rfl⟩ : ∃ x m, num 0 (b.drop i) = some (x, m) ∧ p = (⟨0, x, []⟩, m) := by
            rw [one_num (by decide), Option.map_eq_some_iff] at ho
            obtain ⟨p', h1, h2⟩ := ho
            exact ⟨p'.1, p'.2, h1, h2.symm⟩
          have HD := Lib.hid hd
          clear ho hd
          go_wp2_with fail
          refine (num_some _ w.heap.size A cap b i (laid_buf HI.out 0) 0 (by decide) x m HD.out).mono ?_
          rintro e w1 ⟨rfl, hg, hb1⟩
          obtain ⟨q0, q1, q2, g0, g1, g2, hsz, hgw⟩ := laid_facts hBs hg
          have HG := Lib.hid (grown_set hgw (p := ⟨wr.heap.size, 1, none⟩) (Nat.le_refl _) (.int .u64 x))
          have HBW := Lib.hid (hb1.low HN.out ((Below.refl (w.heap.size + 1) w1).setCell (p := ⟨wr.heap.size, 1, none⟩) hBs (.int .u64 x)))
          clear hg hgw hb1
          go_wp2_with (at_builtin; refine item_append (w.heap.size + 1) rfl (.tmp 82) (.tmp 84) rfl u4 its (⟨0, x, []⟩, none, 0) rfl _ rfl (by simp) (Items.grown HI.out.2.2.1 HG.out (Nat.lt_succ_self _)) (blk_nil _ _) (by simp; omega) hil ?_; intro v1 w2 hi2 hb2; have HN2 := Lib.hid (inv_next HI.out hlt HKK.out HO.out HN.out HBW.out HG.out hi2 hb2); clear hi2 hb2)
          go_roundw
          case rel => first | exact ⟨j + 1, i + m, _, by omega, by go_num, HN2.out⟩ | ((repeat apply Exists.intro); exact ⟨⟨j + 1, i + m, _, by omega, by go_num, HN2.out⟩, rfl⟩)
          case measure => simp [intOf]; omega
      · cases ho : one 1 (b.drop i) with
        | none =>
          have HO := Lib.hid ho
          have hd : num 1 (b.drop i) = none := by rw [one_num (by decide)] at ho; simpa using ho
          have HD := Lib.hid hd
          clear ho hd
          go_wp2_with fail
          refine (num_none _ w.heap.size A cap b i (laid_buf HI.out 1) 1 (by decide) HD.out).mono ?_
          rintro e w1 ⟨x, s, rfl, hg⟩
          obtain ⟨q0, q1, q2, g0, g1, g2, hsz, hgw⟩ := laid_facts hBs hg
          have HG := Lib.hid hgw
          clear hg hgw
          go_wp2
          go_returns
          exact inv_stop HI.out hlt HKK.out HO.out (grown_set HG.out (Nat.le_refl _) _)
        | some p =>
          have HO := Lib.hid ho
          obtain ⟨x, m, hd, rfl⟩ : ∃ x m, num 1 (b.drop i) = some (x, m) ∧ p = (⟨1, x, []⟩, m) := by
            rw [one_num (by decide), Option.map_eq_some_iff] at ho
            obtain ⟨p', h1, h2⟩ := ho
            exact ⟨p'.1, p'.2, h1, h2.symm⟩
          have HD := Lib.hid hd
          clear ho hd
          go_wp2_with fail
          refine (num_some _ w.heap.size A cap b i (laid_buf HI.out 1) 1 (by decide) x m HD.out).mono ?_
          rintro e w1 ⟨rfl, hg, hb1⟩
          obtain ⟨q0, q1, q2, g0, g1, g2, hsz, hgw⟩ := laid_facts hBs hg
          have HG := Lib.hid (grown_set hgw (p := ⟨wr.heap.size, 1, none⟩) (Nat.le_refl _) (.int .u64 x))
          have HBW := Lib.hid (hb1.low HN.out ((Below.refl (w.heap.size + 1) w1).setCell (p := ⟨wr.heap.size, 1, none⟩) hBs (.int .u64 x)))
          clear hg hgw hb1
          go_wp2_with (at_builtin; refine item_append (w.heap.size + 1) rfl (.tmp 82) (.tmp 84) rfl u4 its (⟨1, x, []⟩, none, 0) rfl _ rfl (by simp) (Items.grown HI.out.2.2.1 HG.out (Nat.lt_succ_self _)) (blk_nil _ _) (by simp; omega) hil ?_; intro v1 w2 hi2 hb2; have HN2 := Lib.hid (inv_next HI.out hlt HKK.out HO.out HN.out HBW.out HG.out hi2 hb2); clear hi2 hb2)
          go_roundw
          case rel => first | exact ⟨j + 1, i + m, _, by omega, by go_num, HN2.out⟩ | ((repeat apply Exists.intro); exact ⟨⟨j + 1, i + m, _, by omega, by go_num, HN2.out⟩, rfl⟩)
          case measure => simp [intOf]; omega
      · cases ho : one 2 (b.drop i) with
        | none =>
          have HO := Lib.hid ho
          have hd : num 2 (b.drop i) = none := by rw [one_num (by decide)] at ho; simpa using ho
          have HD := Lib.hid hd
          clear ho hd
          go_wp2_with fail
          refine (num_none _ w.heap.size A cap b i (laid_buf HI.out 2) 2 (by decide) HD.out).mono ?_
          rintro e w1 ⟨x, s, rfl, hg⟩
          obtain ⟨q0, q1, q2, g0, g1, g2, hsz, hgw⟩ := laid_facts hBs hg
          have HG := Lib.hid hgw
          clear hg hgw
          go_wp2
          go_returns
          exact inv_stop HI.out hlt HKK.out HO.out (grown_set HG.out (Nat.le_refl _) _)
        | some p =>
          have HO := Lib.hid ho
          obtain ⟨x, m, hd, rfl⟩ : ∃ x m, num 2 (b.drop i) = some (x, m) ∧ p = (⟨2, x, []⟩, m) := by
            rw [one_num (by decide), Option.map_eq_some_iff] at ho
            obtain ⟨p', h1, h2⟩ := ho
            exact ⟨p'.1, p'.2, h1, h2.symm⟩
          have HD := Lib.hid hd
          clear ho hd
          go_wp2_with fail
          refine (num_some _ w.heap.size A cap b i (laid_buf HI.out 2) 2 (by decide) x m HD.out).mono ?_
          rintro e w1 ⟨rfl, hg, hb1⟩
          obtain ⟨q0, q1, q2, g0, g1, g2, hsz, hgw⟩ := laid_facts hBs hg
          have HG := Lib.hid (grown_set hgw (p := ⟨wr.heap.size, 1, none⟩) (Nat.le_refl _) (.int .u64 x))
          have HBW := Lib.hid (hb1.low HN.out ((Below.refl (w.heap.size + 1) w1).setCell (p := ⟨wr.heap.size, 1, none⟩) hBs (.int .u64 x)))
          clear hg hgw hb1
          go_wp2_with (at_builtin; refine item_append (w.heap.size + 1) rfl (.tmp 82) (.tmp 84) rfl u4 its (⟨2, x, []⟩, none, 0) rfl _ rfl (by simp) (Items.grown HI.out.2.2.1 HG.out (Nat.lt_succ_self _)) (blk_nil _ _) (by simp; omega) hil ?_; intro v1 w2 hi2 hb2; have HN2 := Lib.hid (inv_next HI.out hlt HKK.out HO.out HN.out HBW.out HG.out hi2 hb2); clear hi2 hb2)
          go_roundw
          case rel => first | exact ⟨j + 1, i + m, _, by omega, by go_num, HN2.out⟩ | ((repeat apply Exists.intro); exact ⟨⟨j + 1, i + m, _, by omega, by go_num, HN2.out⟩, rfl⟩)
          case measure => simp [intOf]; omega
      · cases ho : one 3 (b.drop i) with
        | none =>
          have HO := Lib.hid ho
          have hd : num 3 (b.drop i) = none := by rw [one_num (by decide)] at ho; simpa using ho
          have HD := Lib.hid hd
          clear ho hd
          go_wp2_with fail
          refine (num_none _ w.heap.size A cap b i (laid_buf HI.out 3) 3 (by decide) HD.out).mono ?_
          rintro e w1 ⟨x, s, rfl, hg⟩
          obtain ⟨q0, q1, q2, g0, g1, g2, hsz, hgw⟩ := laid_facts hBs hg
          have HG := Lib.hid hgw
          clear hg hgw
          go_wp2
          go_returns
          exact inv_stop HI.out hlt HKK.out HO.out (grown_set HG.out (Nat.le_refl _) _)
        | some p =>
          have HO := Lib.hid ho
          obtain ⟨x, m, hd, rfl⟩ : ∃ x m, num 3 (b.drop i) = some (x, m) ∧ p = (⟨3, x, []⟩, m) := by
            rw [one_num (by decide), Option.map_eq_some_iff] at ho
            obtain ⟨p', h1, h2⟩ := ho
            exact ⟨p'.1, p'.2, h1, h2.symm⟩
          have HD := Lib.hid hd
          clear ho hd
          go_wp2_with fail
          refine (num_some _ w.heap.size A cap b i (laid_buf HI.out 3) 3 (by decide) x m HD.out).mono ?_
          rintro e w1 ⟨rfl, hg, hb1⟩
          obtain ⟨q0, q1, q2, g0, g1, g2, hsz, hgw⟩ := laid_facts hBs hg
          have HG := Lib.hid (grown_set hgw (p := ⟨wr.heap.size, 1, none⟩) (Nat.le_refl _) (.int .u64 x))
          have HBW := Lib.hid (hb1.low HN.out ((Below.refl (w.heap.size + 1) w1).setCell (p := ⟨wr.heap.size, 1, none⟩) hBs (.int .u64 x)))
          clear hg hgw hb1
          go_wp2_with (at_builtin; refine item_append (w.heap.size + 1) rfl (.tmp 82) (.tmp 84) rfl u4 its (⟨3, x, []⟩, none, 0) rfl _ rfl (by simp) (Items.grown HI.out.2.2.1 HG.out (Nat.lt_succ_self _)) (blk_nil _ _) (by simp; omega) hil ?_; intro v1 w2 hi2 hb2; have HN2 := Lib.hid (inv_next HI.out hlt HKK.out HO.out HN.out HBW.out HG.out hi2 hb2); clear hi2 hb2)
          go_roundw
          case rel => first | exact ⟨j + 1, i + m, _, by omega, by go_num, HN2.out⟩ | ((repeat apply Exists.intro); exact ⟨⟨j + 1, i + m, _, by omega, by go_num, HN2.out⟩, rfl⟩)
          case measure => simp [intOf]; omega
      · cases ho : one 4 (b.drop i) with
        | none =>
          have HO := Lib.hid ho
          have hd : num 4 (b.drop i) = none := by rw [one_num (by decide)] at ho; simpa using ho
          have HD := Lib.hid hd
          clear ho hd
          go_wp2_with fail
          refine (num_none _ w.heap.size A cap b i (laid_buf HI.out 4) 4 (by decide) HD.out).mono ?_
          rintro e w1 ⟨x, s, rfl, hg⟩
          obtain ⟨q0, q1, q2, g0, g1, g2, hsz, hgw⟩ := laid_facts hBs hg
          have HG := Lib.hid hgw
          clear hg hgw
          go_wp2
          go_returns
          exact inv_stop HI.out hlt HKK.out HO.out (grown_set HG.out (Nat.le_refl _) _)
        | some p =>
          have HO := Lib.hid ho
          obtain ⟨x, m, hd, rfl⟩ : ∃ x m, num 4 (b.drop i) = some (x, m) ∧ p = (⟨4, x, []⟩, m) := by
            rw [one_num (by decide), Option.map_eq_some_iff] at ho
            obtain ⟨p', h1, h2⟩ := ho
            exact ⟨p'.1, p'.2, h1, h2.symm⟩
          have HD := Lib.hid hd
          clear ho hd
          go_wp2_with fail
          refine (num_some _ w.heap.size A cap b i (laid_buf HI.out 4) 4 (by decide) x m HD.out).mono ?_
          rintro e w1 ⟨rfl, hg, hb1⟩
          obtain ⟨q0, q1, q2, g0, g1, g2, hsz, hgw⟩ := laid_facts hBs hg
          have HG := Lib.hid (grown_set hgw (p := ⟨wr.heap.size, 1, none⟩) (Nat.le_refl _) (.int .u64 x))
          have HBW := Lib.hid (hb1.low HN.out ((Below.refl (w.heap.size + 1) w1).setCell (p := ⟨wr.heap.size, 1, none⟩) hBs (.int .u64 x)))
          clear hg hgw hb1
          go_wp2_with (at_builtin; refine item_append (w.heap.size + 1) rfl (.tmp 82) (.tmp 84) rfl u4 its (⟨4, x, []⟩, none, 0) rfl _ rfl (by simp) (Items.grown HI.out.2.2.1 HG.out (Nat.lt_succ_self _)) (blk_nil _ _) (by simp; omega) hil ?_; intro v1 w2 hi2 hb2; have HN2 := Lib.hid (inv_next HI.out hlt HKK.out HO.out HN.out HBW.out HG.out hi2 hb2); clear hi2 hb2)
          go_roundw
          case rel => first | exact ⟨j + 1, i + m, _, by omega, by go_num, HN2.out⟩ | ((repeat apply Exists.intro); exact ⟨⟨j + 1, i + m, _, by omega, by go_num, HN2.out⟩, rfl⟩)
          case measure => simp [intOf]; omega
      · cases ho : one 5 (b.drop i) with
        | none =>
          have HO := Lib.hid ho
          have hd : rb (b.drop i) = none := by rw [one_raw (by decide)] at ho; simpa using ho
          have HD := Lib.hid hd
          clear ho hd
          go_wp2_with fail
          refine (raw_none true _ w.heap.size A cap b i (laid_buf HI.out 5) HD.out).mono ?_
          rintro e w1 ⟨t, p, rfl, hg⟩
          obtain ⟨q0, q1, q2, g0, g1, g2, hsz, hgw⟩ := laid_facts hBs hg
          have HG := Lib.hid hgw
          clear hg hgw
          go_wp2
          go_returns
          exact inv_stop HI.out hlt HKK.out HO.out (grown_set HG.out (Nat.le_refl _) _)
        | some p =>
          have HO := Lib.hid ho
          obtain ⟨l, m, hd, rfl⟩ : ∃ l m, rb (b.drop i) = some (l, m) ∧ p = (⟨5, 0, l⟩, m) := by
            rw [one_raw (by decide), Option.map_eq_some_iff] at ho
            obtain ⟨p', h1, h2⟩ := ho
            exact ⟨p'.1, p'.2, h1, h2.symm⟩
          have HD := Lib.hid hd
          clear ho hd
          go_wp2_with fail
          refine (raw_true _ w.heap.size A cap b i (laid_buf HI.out 5) l m HD.out).mono ?_
          rintro e w1 ⟨a, c, rfl, ⟨hg, hb1⟩, hy⟩
          obtain ⟨q0, q1, q2, g0, g1, g2, hsz, hgw⟩ := laid_facts hBs hg
          have HG := Lib.hid (grown_set hgw (p := ⟨wr.heap.size, 2, none⟩) (Nat.le_refl _) (.slice a l.length c))
          have HBW := Lib.hid (hb1.low HN.out ((Below.refl (w.heap.size + 1) w1).setCell (p := ⟨wr.heap.size, 2, none⟩) hBs (.slice a l.length c)))
          have HY := Lib.hid (ByteBlk.lower (blk_set hy (p := ⟨wr.heap.size, 2, none⟩) (by simp) (.slice a l.length c)) (base' := w.heap.size + 1) (by simp; omega))
          clear hg hgw hb1 hy
          go_wp2_with (at_builtin; refine item_append (w.heap.size + 1) rfl (.tmp 82) (.tmp 84) rfl u4 its (⟨5, 0, l⟩, a, c) rfl _ rfl (by simp) (Items.grown HI.out.2.2.1 HG.out (Nat.lt_succ_self _)) HY.out (by simp; omega) hil ?_; intro v1 w2 hi2 hb2; have HN2 := Lib.hid (inv_next HI.out hlt HKK.out HO.out HN.out HBW.out HG.out hi2 hb2); clear hi2 hb2)
          go_roundw
          case rel => first | exact ⟨j + 1, i + m, _, by omega, by go_num, HN2.out⟩ | ((repeat apply Exists.intro); exact ⟨⟨j + 1, i + m, _, by omega, by go_num, HN2.out⟩, rfl⟩)
          case measure => simp [intOf]; omega
      · cases ho : one 6 (b.drop i) with
        | none =>
          have HO := Lib.hid ho
          have hd : rb (b.drop i) = none := by rw [one_raw (by decide)] at ho; simpa using ho
          have HD := Lib.hid hd
          clear ho hd
          have hcv := conv_nil
          go_wp2_with fail
          refine (str_none _ w.heap.size A cap b i (laid_buf HI.out 6) HD.out).mono ?_
          rintro e w1 ⟨t, p, rfl, hg⟩
          obtain ⟨q0', q1', q2', g0', g1', g2', hsz', hgw⟩ := laid_facts hBs hg
          have hE := below_bytes w1 ByteArray.empty
          have q2 := (hE.cell (p := ⟨wr.heap.size, 2, none⟩) hsz').trans q2'
          have g2 := (hE.frozen (p := ⟨wr.heap.size, 2, none⟩) hsz').trans g2'
          have HG := Lib.hid (World.grownBy.trans hgw (grown_of_below hE (some w.heap.size)))
          clear hg hgw q0' q1' q2' g0' g1' g2' hsz' hE
          go_wp2
          go_returns
          exact inv_stop HI.out hlt HKK.out HO.out (grown_set HG.out (Nat.le_refl _) _)
        | some p =>
          have HO := Lib.hid ho
          obtain ⟨l, m, hd, rfl⟩ : ∃ l m, rb (b.drop i) = some (l, m) ∧ p = (⟨6, 0, l⟩, m) := by
            rw [one_raw (by decide), Option.map_eq_some_iff] at ho
            obtain ⟨p', h1, h2⟩ := ho
            exact ⟨p'.1, p'.2, h1, h2.symm⟩
          have HD := Lib.hid hd
          have hl8 : Bytes8 l := rb_bytes (bytes_drop HB.out.1 i) hd
          have hcv := conv_l hl8
          clear ho hd
          go_wp2_with fail
          refine (str_some _ w.heap.size A cap b i (laid_buf HI.out 6) l m HD.out).mono ?_
          rintro e w1 ⟨rfl, hg, hb1⟩
          obtain ⟨q0', q1', q2', g0', g1', g2', hsz', hgw⟩ := laid_facts hBs hg
          have hE := below_bytes w1 (strOfNums l)
          have q0 := (hE.cell (p := ⟨wr.heap.size, 0, none⟩) hsz').trans q0'
          have q1 := (hE.cell (p := ⟨wr.heap.size, 1, none⟩) hsz').trans q1'
          have q2 := (hE.cell (p := ⟨wr.heap.size, 2, none⟩) hsz').trans q2'
          have g2 := (hE.frozen (p := ⟨wr.heap.size, 2, none⟩) hsz').trans g2'
          have hsz : wr.heap.size < (Lib.bytesWorld w1 5 (strOfNums l)).heap.size := by have := hE.size; omega
          have hgw2 := World.grownBy.trans hgw (grown_of_below hE (some w.heap.size))
          have HG := Lib.hid fun u => grown_set hgw2 (p := ⟨wr.heap.size, 2, none⟩) (Nat.le_refl _) u
          have HBW := Lib.hid fun u => (hb1.below hE).low HN.out ((Below.refl (w.heap.size + 1) _).setCell (p := ⟨wr.heap.size, 2, none⟩) hBs u)
          have HY := Lib.hid fun u => ByteBlk.lower (blk_set (blk_conv w1 hl8) (p := ⟨wr.heap.size, 2, none⟩) hsz' u) (base' := w.heap.size + 1) (by omega)
          clear hg hgw hb1 hgw2 q0' q1' q2' g0' g1' g2' hsz' hE
          go_wp2_with (at_builtin; refine item_append (w.heap.size + 1) rfl (.tmp 82) (.tmp 84) rfl u4 its (⟨6, 0, l⟩, some ⟨w1.heap.size, 0, none⟩, grownCap w1 l.length 0 5) rfl _ rfl (by simp) (Items.grown HI.out.2.2.1 (HG.out _) (Nat.lt_succ_self _)) (HY.out _) (by simp; omega) hil ?_; intro v1 w2 hi2 hb2; have HN2 := Lib.hid (inv_next HI.out hlt HKK.out HO.out HN.out (HBW.out _) (HG.out _) hi2 hb2); clear hi2 hb2)
          go_roundw
          case rel => first | exact ⟨j + 1, i + m, _, by omega, by go_num, HN2.out⟩ | ((repeat apply Exists.intro); exact ⟨⟨j + 1, i + m, _, by omega, by go_num, HN2.out⟩, rfl⟩)
          case measure => simp [intOf]; omega
    · obtain rfl : j = ks.length := by omega
      have HR := Lib.hid (rest_any2 HI.out HN.out)
      go_wp2_with fail
      refine HR.out.mono ?_
      rintro e w1 ⟨a, c, rfl, hs1, hb1⟩
      have HP := Lib.hid (inv_end HI.out hb1 hs1)
      clear hb1 hs1
      go_wp2
      go_returns
      exact HP.out c

end Go.Proofs.Ytobponaenabpgaa.Rd
