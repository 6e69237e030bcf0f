/- The buffer's writing of bytes and texts behind their number. -/
import Derived.Test.YtobponaenabpgaaWrBuf
namespace Go.Proofs.Ytobponaenabpgaa.Rd
open Go.ChangeShapes Go.WideShapes Go.ChangeAt Go.RowKit Sv Go.Proofs.YtobponaenabpgaaW Go.Proofs.YtobponaenabpgaaW.PrintWords
set_option linter.unusedVariables false

set_option maxHeartbeats 1000000 in
set_option maxRecDepth 100000 in
theorem put_raw (w : World) (B : Nat) (v : Value) (xs : List Int) (h : OutBuf w B v xs) (hx : xs.length ≤ 50000) (w0 : World) (a : Option Addr) (cap : Nat) (l : List Int) (hl : l.length ≤ 40000) (hs : Holds8 w0 a l) (hB : w0.heap.size ≤ B) (h0 : Below w0.heap.size w0 w) :
    Calls Try.prog 63 #[.pointer (some ⟨B, 0, none⟩), .slice a l.length cap] w (PutPost B (xs ++ (sev l.length ++ l)) w) := by
  have HV := Lib.hid (put_varint l.length (by omega) w B v xs h (by omega))
  have HS := Lib.hid fun W (hW : Below B w W) => reads_holds (holds_below hs (h0.trans (hW.mono hB)))
  have hlen := sev_len10 (n := l.length) (by omega)
  clear h hs h0
  go_enter Try.func63, Try.ntmps63
  go_wp2_with fail
  refine HV.out.mono ?_
  rintro e w1 ⟨rfl, v1, hp, hb⟩
  have c0 := hp.c0
  have hBs := hp.lt
  have HO := Lib.hid hp
  have HB := Lib.hid hb
  have HR := Lib.hid (HS.out _ hb)
  clear hp hb HV HS
  go_wp2_with (at_builtin; go_loud (refine print_append_row (w0 := w1) (B + 1) rfl (.tmp 14) (.tmp 15) 23 5 .u8 1 rfl Try.underlying23 info5 (by decide) v1 (xs ++ sev l.length) l a l.length cap rfl rfl HO.out.own HR.out (Below.refl _ _) hBs (by simp; omega) ?_); intro v2 w2 HO1 HB1 _ _; obtain ⟨A1, n1, k1, rfl⟩ := own_any HO1; have HP := Lib.hid (HO.out.put HB1 HO1); obtain ⟨q0, q1⟩ := HO.out.cells HB1; clear HO1 HB1)
  go_returns
  rw [← List.append_assoc]
  exact ⟨rfl, _, HP.out.1, HB.out.trans HP.out.2⟩

theorem bytes_str {l : List Int} (h : Bytes8 l) : bytesOf (strOfNums l) = l := by
  unfold bytesOf strOfNums
  simp only [List.map_map]
  refine (List.map_congr_left fun x hx => ?_).trans (List.map_id l)
  have := h x hx
  simp
  omega

set_option maxHeartbeats 1000000 in
set_option maxRecDepth 100000 in
theorem put_str (w : World) (B : Nat) (v : Value) (xs : List Int) (h : OutBuf w B v xs) (hx : xs.length ≤ 50000) (l : List Int) (hl : l.length ≤ 40000) (hB : Bytes8 l) :
    Calls Try.prog 64 #[.pointer (some ⟨B, 0, none⟩), .string (strOfNums l)] w (PutPost B (xs ++ (sev l.length ++ l)) w) := by
  have HV := Lib.hid (put_varint l.length (by omega) w B v xs h (by omega))
  have hlen := sev_len10 (n := l.length) (by omega)
  have hz := strOfNums_size l
  have HE := Lib.hid (bytes_str hB)
  generalize strOfNums l = s at *
  clear h hB
  go_enter Try.func64, Try.ntmps64
  go_wp2_with fail
  refine HV.out.mono ?_
  rintro e w1 ⟨rfl, v1, hp, hb⟩
  have c0 := hp.c0
  have hBs := hp.lt
  have HO := Lib.hid hp
  have HB := Lib.hid hb
  clear hp hb HV
  go_wp2_with (at_builtin; go_loud (refine print_append_str (w0 := w1) (B + 1) rfl (.tmp 14) (.tmp 15) 23 9 5 rfl Try.underlying23 Try.underlying9 info5 v1 (xs ++ sev l.length) s rfl rfl HO.out.own (Below.refl _ _) hBs (by simp; omega) ?_); intro v2 w2 HO1 HB1 _; obtain ⟨A1, n1, k1, rfl⟩ := own_any HO1; have HP := Lib.hid (HO.out.put HB1 HO1); obtain ⟨q0, q1⟩ := HO.out.cells HB1; clear HO1 HB1)
  go_returns
  rw [← List.append_assoc]
  have := HP.out
  rw [HE.out] at this
  exact ⟨rfl, _, this.1, HB.out.trans this.2⟩

end Go.Proofs.Ytobponaenabpgaa.Rd
