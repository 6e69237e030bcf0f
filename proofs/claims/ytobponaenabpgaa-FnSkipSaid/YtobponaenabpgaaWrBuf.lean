/- The buffer's writing: its row of bytes, and a number by sevens. -/
import Derived.Test.YtobponaenabpgaaRdAid
import Derived.Test.YtobponaenabpgaaSvEnc
import Derived.WalkSmall
namespace Go.Proofs.Ytobponaenabpgaa.Rd
open Go.ChangeShapes Go.WideShapes Go.ChangeAt Go.RowKit Sv Go.Proofs.YtobponaenabpgaaW Go.Proofs.YtobponaenabpgaaW.PrintWords
set_option linter.unusedVariables false

theorem sev_step' {m : Nat} {xs zs : List Int} (h : 127 < m) (he : xs ++ sev m = zs) : (xs ++ [(m : Int) % 128 + 128]) ++ sev (m / 128) = zs := by
  rw [← he, sev_hi (n := m) (by omega)]
  simp

/-- The buffer at a block, and the bytes that it has been given. -/
structure OutBuf (w : World) (B : Nat) (v : Value) (xs : List Int) : Prop where
  c0 : w.cell? ⟨B, 0, none⟩ = some v
  f0 : w.frozen? ⟨B, 0, none⟩ = false
  own : w.ownsRow (B + 1) 5 1 v xs.length (nums .u8 xs)

theorem OutBuf.lt {w : World} {B : Nat} {v : Value} {xs : List Int} (h : OutBuf w B v xs) : B < w.heap.size := World.block_lt_of_cell? w _ h.c0

theorem set_grown (w : World) (B o : Nat) (u : Value) : w.grownBy (w.setCell ⟨B, o, none⟩ u) (some B) :=
  ⟨rfl, rfl, rfl, by simp, fun j _ hj => heap_setCell_other w ⟨B, o, none⟩ j _ (fun e => hj (by simp [e]))⟩

/-- What an append makes of it. -/
theorem OutBuf.put {w w1 : World} {B : Nat} {v v1 : Value} {xs ys : List Int} (h : OutBuf w B v xs) (hb : Below (B + 1) w w1) (ho : w1.ownsRow (B + 1) 5 1 v1 ys.length (nums .u8 ys)) :
    OutBuf (w1.setCell ⟨B, 0, none⟩ v1) B v1 ys ∧ Below B w (w1.setCell ⟨B, 0, none⟩ v1) := by
  have c1 := (hb.cell (p := ⟨B, 0, none⟩) (Nat.lt_succ_self B)).trans h.c0
  have f1 := (hb.frozen (p := ⟨B, 0, none⟩) (Nat.lt_succ_self B)).trans h.f0
  refine ⟨⟨World.cell?_setCell_same _ _ _ c1, (World.frozen?_setCell _ _ _ _).trans f1, ho.kept (set_grown w1 B 0 v1) ?_⟩, (hb.mono (Nat.le_succ B)).setCell (p := ⟨B, 0, none⟩) (Nat.le_refl _) _⟩
  rcases hv : v1.ownBlock with _ | k
  · exact .inl rfl
  · have := own_base ho k hv
    exact .inr (by simp; omega)

theorem OutBuf.cells {w w1 : World} {B : Nat} {v : Value} {xs : List Int} (h : OutBuf w B v xs) (hb : Below (B + 1) w w1) : w1.cell? ⟨B, 0, none⟩ = some v ∧ w1.frozen? ⟨B, 0, none⟩ = false :=
  ⟨(hb.cell (p := ⟨B, 0, none⟩) (Nat.lt_succ_self B)).trans h.c0, (hb.frozen (p := ⟨B, 0, none⟩) (Nat.lt_succ_self B)).trans h.f0⟩

theorem nat_or128' : ∀ c : Nat, c < 128 → c ||| 128 = c + 128 := by decide +kernel
theorem or128_u64 (c : Int) (h0 : 0 ≤ c) (h1 : c < 128) : bits .or .u64 c 128 = c + 128 := by
  rw [u64_or c 128 h0 (by omega) (by omega) (by omega), show (128 : Int).toNat = 128 from rfl, nat_or128' _ (by omega)]
  omega

theorem own_any {w : World} {base n : Nat} {e : TypeId} {size : Nat} {v : Value} {xs : List Value} (h : w.ownsRow base e size v n xs) : ∃ A m c, v = .slice A m c := by
  obtain ⟨A, c, rfl⟩ := own_slice h
  exact ⟨A, n, c, rfl⟩

def PutPost (B : Nat) (ys : List Int) (w : World) (e : Ending) (w' : World) : Prop := e = .returned .nilIface ∧ ∃ v, OutBuf w' B v ys ∧ Below B w w'

set_option maxHeartbeats 1000000 in
set_option maxRecDepth 100000 in
theorem put_varint (n : Nat) (hn : (n : Int) ≤ 18446744073709551615) (w : World) (B : Nat) (v : Value) (xs : List Int) (h : OutBuf w B v xs) (hx : xs.length ≤ 100000) :
    Calls Try.prog 58 #[.pointer (some ⟨B, 0, none⟩), .int .u64 n] w (PutPost B (xs ++ sev n) w) := by
  have hl10 := sev_len10 (n := n) (by omega)
  have HO := Lib.hid h
  clear h
  go_enter Try.func58, Try.ntmps58
  go_wp2
  go_loopw [1] (fun x wr => ∃ (m : Nat) (ys : List Int) (v : Value), x = .int .u64 m ∧ (m : Int) ≤ 18446744073709551615 ∧ ys.length + (sev m).length ≤ 100010 ∧ Hid (ys ++ sev m = xs ++ sev n) ∧ Hid (OutBuf wr B v ys) ∧ Hid (Below B w wr)) (fun x _ => (intOf x).toNat)
  case atStart => exact ⟨n, xs, v, rfl, hn, by omega, rfl, HO, Below.refl _ _⟩
  case round =>
    obtain ⟨m, ys, v, rfl, hm, hlen, HE, HR, HB⟩ := hrel
    have c0 := HR.out.c0
    have hBs := HR.out.lt
    clear HO
    by_cases hlt : 127 < m
    · have b1 := and127_any m hm
      have b2 := or128_u64 ((m : Int) % 128) (by omega) (by omega)
      have b3 : ((m : Int) % 128 + 128) % 256 = (m : Int) % 128 + 128 := by omega
      go_wp2_with (at_builtin; refine print_append_num (w0 := wr) (B + 1) rfl (.tmp 11) (.tmp 16) 23 5 .u8 1 rfl Try.underlying23 info5 (by decide) v ys ((m : Int) % 128 + 128) rfl rfl HR.out.own (Below.refl _ _) hBs (by omega) ?_; intro v1 w1 HO1 HB1 _ _; obtain ⟨A1, n1, k1, rfl⟩ := own_any HO1; have HP := Lib.hid (HR.out.put HB1 HO1); obtain ⟨q0, q1⟩ := HR.out.cells HB1; clear HO1 HB1)
      go_roundw
      case rel =>
        have := sev_len_step hlt
        exact ⟨m / 128, ys ++ [(m : Int) % 128 + 128], _, by go_num, by omega, by rw [List.length_append]; simp; omega, sev_step' hlt HE.out, HP.out.1, HB.out.trans HP.out.2⟩
      case measure => simp [intOf]; omega
    · have hsm : sev m = [(m : Int)] := sev_lo (by omega)
      have HS := Lib.hid hsm
      clear hsm
      go_wp2_with (at_builtin; refine print_append_num (w0 := wr) (B + 1) rfl (.tmp 26) (.tmp 29) 23 5 .u8 1 rfl Try.underlying23 info5 (by decide) v ys ↑m rfl rfl HR.out.own (Below.refl _ _) hBs (by omega) ?_; intro v1 w1 HO1 HB1 _ _; obtain ⟨A1, n1, k1, rfl⟩ := own_any HO1; have HP := Lib.hid (HR.out.put HB1 HO1); obtain ⟨q0, q1⟩ := HR.out.cells HB1; clear HO1 HB1)
      go_returns
      rw [← HE.out, HS.out]
      exact ⟨rfl, _, HP.out.1, HB.out.trans HP.out.2⟩

end Go.Proofs.Ytobponaenabpgaa.Rd
