/- The buffer's reading of bytes and texts behind their number. -/
import Derived.Test.YtobponaenabpgaaRdRaw
import Derived.Deep.RegionLaw
namespace Go.Proofs.Ytobponaenabpgaa.Rd
open Go.ChangeShapes Go.WideShapes Go.ChangeAt Go.RowKit Sv Go.Proofs.YtobponaenabpgaaW Go.Proofs.YtobponaenabpgaaW.PrintWords
set_option linter.unusedVariables false

/-- Bytes behind their number: the bytes, and how many there are with their number. -/
def rb (r : List Int) : Option (List Int × Nat) := match dv r with
  | none => none
  | some (x, m) => if x ≤ ((r.length - m : Nat) : Int) then some ((r.drop m).take x.toNat, m + x.toNat) else none

def ErrB (B : Nat) (w : World) (e : Ending) (w' : World) : Prop := ∃ t p, e = .returned (.tuple #[.slice none 0 0, .iface t p]) ∧ w.grownBy w' (some B)

theorem below_moved (w : World) (B k : Nat) : Below B w (moved w B k) := (Below.refl B w).setCell (Nat.le_refl _) _

theorem raw_broken (al : Bool) (w : World) (B : Nat) (A : Option Addr) (cap : Nat) (b : List Int) (i : Nat) (h : IsBuf w B A cap b i) (hd : dv (b.drop i) = none) :
    Calls Try.prog 52 #[.pointer (some ⟨B, 0, none⟩), .bool al] w (ErrB B w) := by
  have Hv := Lib.hid (var_none w B A cap b i h hd)
  clear h hd
  go_enter Try.func52, Try.ntmps52
  go_wp2_with fail
  refine Hv.out.mono ?_
  rintro e w1 ⟨x, s, rfl, rfl⟩
  go_wp2
  go_returns
  exact ⟨_, _, rfl, World.grownBy.refl _ _⟩

set_option maxHeartbeats 400000 in
theorem raw_neg (al : Bool) (w : World) (B : Nat) (A : Option Addr) (cap : Nat) (b : List Int) (i : Nat) (h : IsBuf w B A cap b i) (x : Int) (m : Nat) (hd : dv (b.drop i) = some (x, m)) (hm : i + m ≤ b.length) (hx : wrap64 x < 0) :
    Calls Try.prog 52 #[.pointer (some ⟨B, 0, none⟩), .bool al] w (ErrB B w) := by
  have Hv := Lib.hid (var_some w B A cap b i h x m hd)
  have HL := Lib.hid h.lt
  have Hb := Lib.hid (moved_grown w B (i + m))
  clear h hd
  go_enter Try.func52, Try.ntmps52
  go_wp2_with fail
  refine Hv.out.mono ?_
  rintro e w1 ⟨rfl, rfl⟩
  go_wp2
  go_returns
  exact ⟨_, _, rfl, World.grownBy.trans Hb.out (World.grownBy_alloc _ _ _)⟩

set_option maxHeartbeats 400000 in
theorem raw_far (al : Bool) (w : World) (B : Nat) (A : Option Addr) (cap : Nat) (b : List Int) (i : Nat) (h : IsBuf w B A cap b i) (x : Int) (m : Nat) (hd : dv (b.drop i) = some (x, m)) (hm : i + m ≤ b.length)
    (hx0 : 0 ≤ x) (hx1 : x ≤ 9223372036854775807) (hfar : wrap64 ((i + m : Nat) + x) < (i + m : Nat)) :
    Calls Try.prog 52 #[.pointer (some ⟨B, 0, none⟩), .bool al] w (ErrB B w) := by
  have Hv := Lib.hid (var_some w B A cap b i h x m hd)
  have HL := Lib.hid h.lt
  have Hb := Lib.hid (moved_grown w B (i + m))
  obtain ⟨c0, c1, f1, _, _, _, _, _⟩ := h.moved (i + m) hm
  have small := h.small
  clear h hd
  generalize moved w B (i + m) = w1 at *
  generalize i + m = k at *
  go_enter Try.func52, Try.ntmps52
  go_wp2_with fail
  refine Hv.out.mono ?_
  rintro e w1 ⟨rfl, rfl⟩
  go_wp2
  go_returns
  exact ⟨_, _, rfl, Hb.out⟩

set_option maxHeartbeats 400000 in
theorem raw_past (al : Bool) (w : World) (B : Nat) (A : Option Addr) (cap : Nat) (b : List Int) (i : Nat) (h : IsBuf w B A cap b i) (x : Int) (m : Nat) (hd : dv (b.drop i) = some (x, m)) (hm : i + m ≤ b.length)
    (hx0 : 0 ≤ x) (hx1 : (i + m : Nat) + x ≤ 9223372036854775807) (hfar : (b.length : Int) < (i + m : Nat) + x) :
    Calls Try.prog 52 #[.pointer (some ⟨B, 0, none⟩), .bool al] w (ErrB B w) := by
  have Hv := Lib.hid (var_some w B A cap b i h x m hd)
  have HL := Lib.hid h.lt
  have Hb := Lib.hid (moved_grown w B (i + m))
  obtain ⟨c0, c1, f1, _, _, _, _, _⟩ := h.moved (i + m) hm
  have small := h.small
  clear h hd
  generalize moved w B (i + m) = w1 at *
  generalize i + m = k at *
  go_enter Try.func52, Try.ntmps52
  go_wp2_with fail
  refine Hv.out.mono ?_
  rintro e w1 ⟨rfl, rfl⟩
  go_wp2
  go_returns
  exact ⟨_, _, rfl, Hb.out⟩

theorem raw_none (al : Bool) (w : World) (B : Nat) (A : Option Addr) (cap : Nat) (b : List Int) (i : Nat) (h : IsBuf w B A cap b i) (hd : rb (b.drop i) = none) :
    Calls Try.prog 52 #[.pointer (some ⟨B, 0, none⟩), .bool al] w (ErrB B w) := by
  unfold rb at hd
  have hlen : (b.drop i).length = b.length - i := List.length_drop
  have le := h.le
  have small := h.small
  cases hv : dv (b.drop i) with
  | none => exact raw_broken al w B A cap b i h hv
  | some p =>
    obtain ⟨x, m⟩ := p
    rw [hv] at hd
    simp only at hd
    split at hd
    · simp at hd
    · rename_i hx
      obtain ⟨h0, h1, hm⟩ := dv_bd (bytes_drop h.holds.1 i) hv
      by_cases hn : x ≤ 9223372036854775807
      · by_cases hf : (i + m : Nat) + x ≤ 9223372036854775807
        · exact raw_past al w B A cap b i h x m hv (by omega) h0 hf (by omega)
        · exact raw_far al w B A cap b i h x m hv (by omega) h0 hn (by unfold wrap64; omega)
      · exact raw_neg al w B A cap b i h x m hv (by omega) (by unfold wrap64; omega)

end Go.Proofs.Ytobponaenabpgaa.Rd
