/- The buffer's writing of fixed numbers. Printed by wip/gen_wrfix.py. -/
import Derived.Test.YtobponaenabpgaaWrBuf
namespace Go.Proofs.Ytobponaenabpgaa.Rd
open Go.ChangeShapes Go.WideShapes Go.ChangeAt Go.RowKit Sv Go.Proofs.YtobponaenabpgaaW Go.Proofs.YtobponaenabpgaaW.PrintWords
set_option linter.unusedVariables false

/-- The low bytes of a number. -/
def lo : Nat → Int → List Int
  | 0, _ => []
  | k + 1, x => x % 256 :: lo k (x / 256)

theorem lo_len : ∀ (k : Nat) (x : Int), (lo k x).length = k
  | 0, _ => rfl
  | k + 1, x => by simp [lo, lo_len k]

theorem lo4 (x : Int) : lo 4 x = [x % 256, x / 256 % 256, x / 65536 % 256, x / 16777216 % 256] := by
  show [x % 256, x / 256 % 256, x / 256 / 256 % 256, x / 256 / 256 / 256 % 256] = _
  rw [show x / 256 / 256 / 256 = x / 16777216 from by omega, show x / 256 / 256 = x / 65536 from by omega]
theorem lo8 (x : Int) : lo 8 x = [x % 256, x / 256 % 256, x / 65536 % 256, x / 16777216 % 256, x / 4294967296 % 256, x / 1099511627776 % 256, x / 281474976710656 % 256, x / 72057594037927936 % 256] := by
  show [x % 256, x / 256 % 256, x / 256 / 256 % 256, x / 256 / 256 / 256 % 256, x / 256 / 256 / 256 / 256 % 256, x / 256 / 256 / 256 / 256 / 256 % 256, x / 256 / 256 / 256 / 256 / 256 / 256 % 256, x / 256 / 256 / 256 / 256 / 256 / 256 / 256 % 256] = _
  rw [show x / 256 / 256 / 256 / 256 / 256 / 256 / 256 = x / 72057594037927936 from by omega, show x / 256 / 256 / 256 / 256 / 256 / 256 = x / 281474976710656 from by omega, show x / 256 / 256 / 256 / 256 / 256 = x / 1099511627776 from by omega, show x / 256 / 256 / 256 / 256 = x / 4294967296 from by omega, show x / 256 / 256 / 256 = x / 16777216 from by omega, show x / 256 / 256 = x / 65536 from by omega]

/-- A literal's bytes, just laid. -/
theorem lit_reads (W : World) (l : List Int) (hl : l.length ≤ 9223372036854775807) : ReadsInt (W.alloc (.cells (nums .u8 l).toArray 5)) .u8 (some ⟨W.heap.size, 0, none⟩) l.length l :=
  ⟨rfl, hl, fun _ => ⟨_, rfl, fun j hj => by
    have h := (own_lit W W.heap.size 5 .u8 l (Nat.le_refl _) hl)
    have := (own_at h (j : Int) (by omega) (by omega)).1
    rw [PrintWords.add_plain]
    simpa [rd] using this⟩⟩

set_option maxHeartbeats 1000000 in
set_option maxRecDepth 100000 in
theorem put_fix32 (x : Int) (h0 : 0 ≤ x) (h1 : x ≤ 18446744073709551615) (w : World) (B : Nat) (v : Value) (xs : List Int) (h : OutBuf w B v xs) (hx : xs.length ≤ 100000) :
    Calls Try.prog 59 #[.pointer (some ⟨B, 0, none⟩), .int .u64 x] w (PutPost B (xs ++ lo 4 x) w) := by
  have hBs := h.lt
  have hA : Below (B + 1) w (w.alloc (.cells (nums .u8 [x % 256, x / 256 % 256, x / 65536 % 256, x / 16777216 % 256]).toArray 5)) := (Below.refl _ _).alloc hBs _
  have HL := Lib.hid (lit_reads w [x % 256, x / 256 % 256, x / 65536 % 256, x / 16777216 % 256] (by simp))
  have HW := Lib.hid (h.own.alloc (.cells (nums .u8 [x % 256, x / 256 % 256, x / 65536 % 256, x / 16777216 % 256]).toArray 5))
  have HA := Lib.hid hA
  have HE := Lib.hid (lo4 x)
  have HO := Lib.hid h
  have c0 := h.c0
  clear h hA
  go_enter Try.func59, Try.ntmps59
  go_wp2_with (at_builtin; go_loud (refine print_append_row (w0 := w) (B + 1) rfl (.tmp 9) (.tmp 21) 23 5 .u8 1 rfl Try.underlying23 info5 (by decide) v xs [x % 256, x / 256 % 256, x / 65536 % 256, x / 16777216 % 256] (some ⟨w.heap.size, 0, none⟩) 4 4 rfl rfl HW.out HL.out HA.out (Nat.le_trans hBs HA.out.size) (by omega) ?_); intro v1 w1 HO1 HB1 _ _; obtain ⟨A1, n1, k1, rfl⟩ := own_any HO1; have HP := Lib.hid (HO.out.put HB1 HO1); obtain ⟨q0, q1⟩ := HO.out.cells HB1; clear HO1 HB1)
  go_returns
  rw [HE.out]
  exact ⟨rfl, _, HP.out.1, HP.out.2⟩

set_option maxHeartbeats 1000000 in
set_option maxRecDepth 100000 in
theorem put_fix64 (x : Int) (h0 : 0 ≤ x) (h1 : x ≤ 18446744073709551615) (w : World) (B : Nat) (v : Value) (xs : List Int) (h : OutBuf w B v xs) (hx : xs.length ≤ 100000) :
    Calls Try.prog 60 #[.pointer (some ⟨B, 0, none⟩), .int .u64 x] w (PutPost B (xs ++ lo 8 x) w) := by
  have hBs := h.lt
  have hA : Below (B + 1) w (w.alloc (.cells (nums .u8 [x % 256, x / 256 % 256, x / 65536 % 256, x / 16777216 % 256, x / 4294967296 % 256, x / 1099511627776 % 256, x / 281474976710656 % 256, x / 72057594037927936]).toArray 5)) := (Below.refl _ _).alloc hBs _
  have HL := Lib.hid (lit_reads w [x % 256, x / 256 % 256, x / 65536 % 256, x / 16777216 % 256, x / 4294967296 % 256, x / 1099511627776 % 256, x / 281474976710656 % 256, x / 72057594037927936] (by simp))
  have HW := Lib.hid (h.own.alloc (.cells (nums .u8 [x % 256, x / 256 % 256, x / 65536 % 256, x / 16777216 % 256, x / 4294967296 % 256, x / 1099511627776 % 256, x / 281474976710656 % 256, x / 72057594037927936]).toArray 5))
  have HA := Lib.hid hA
  have HE := Lib.hid ((lo8 x).trans (show _ = [x % 256, x / 256 % 256, x / 65536 % 256, x / 16777216 % 256, x / 4294967296 % 256, x / 1099511627776 % 256, x / 281474976710656 % 256, x / 72057594037927936] from by rw [show x / 72057594037927936 % 256 = x / 72057594037927936 from by omega]))
  have HO := Lib.hid h
  have c0 := h.c0
  clear h hA
  go_enter Try.func60, Try.ntmps60
  go_wp2_with (at_builtin; go_loud (refine print_append_row (w0 := w) (B + 1) rfl (.tmp 9) (.tmp 33) 23 5 .u8 1 rfl Try.underlying23 info5 (by decide) v xs [x % 256, x / 256 % 256, x / 65536 % 256, x / 16777216 % 256, x / 4294967296 % 256, x / 1099511627776 % 256, x / 281474976710656 % 256, x / 72057594037927936] (some ⟨w.heap.size, 0, none⟩) 8 8 rfl rfl HW.out HL.out HA.out (Nat.le_trans hBs HA.out.size) (by omega) ?_); intro v1 w1 HO1 HB1 _ _; obtain ⟨A1, n1, k1, rfl⟩ := own_any HO1; have HP := Lib.hid (HO.out.put HB1 HO1); obtain ⟨q0, q1⟩ := HO.out.cells HB1; clear HO1 HB1)
  go_returns
  rw [HE.out]
  exact ⟨rfl, _, HP.out.1, HP.out.2⟩

end Go.Proofs.Ytobponaenabpgaa.Rd
