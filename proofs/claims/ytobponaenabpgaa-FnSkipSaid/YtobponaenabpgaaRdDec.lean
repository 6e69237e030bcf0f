/- Each reading function of the buffer, by what it reads and what it leaves. -/
import Derived.Test.YtobponaenabpgaaRdRaw3
namespace Go.Proofs.Ytobponaenabpgaa.Rd
open Go.ChangeShapes Go.WideShapes Go.ChangeAt Go.RowKit Sv Go.Proofs.YtobponaenabpgaaW Go.Proofs.YtobponaenabpgaaW.PrintWords
set_option linter.unusedVariables false

theorem grown_drewN (w : World) (n : Nat) (row : Option Nat) : w.grownBy (w.drewN n) row := ⟨rfl, rfl, rfl, Nat.le_refl _, fun _ _ _ => rfl⟩
theorem IsBuf.drewN {w : World} {B : Nat} {A : Option Addr} {cap : Nat} {b : List Int} {i : Nat} (h : IsBuf w B A cap b i) (n : Nat) : IsBuf (w.drewN n) B A cap b i :=
  h.below ⟨rfl, rfl, rfl, Nat.le_refl _, fun _ _ => rfl⟩

/-- What is left behind a reading. -/
def Kept (B : Nat) (A : Option Addr) (cap : Nat) (b : List Int) (i : Nat) (w w' : World) : Prop := w.grownBy w' (some B) ∧ IsBuf w' B A cap b i

theorem kept_moved {w : World} {B : Nat} {A : Option Addr} {cap : Nat} {b : List Int} {i : Nat} (h : IsBuf w B A cap b i) (k : Nat) (hk : k ≤ b.length) : Kept B A cap b k w (moved w B k) :=
  ⟨moved_grown w B k, h.moved k hk⟩

def NumPost (x : Int) (B : Nat) (A : Option Addr) (cap : Nat) (b : List Int) (i : Nat) (w : World) (e : Ending) (w' : World) : Prop :=
  e = .returned (.tuple #[.int .u64 x, .nilIface]) ∧ Kept B A cap b i w w'
def NoPost (B : Nat) (w : World) (e : Ending) (w' : World) : Prop := ∃ x s, e = .returned (.tuple #[.int .u64 x, .iface 111 (.string s)]) ∧ w.grownBy w' (some B)

/-- The number of a kind, where it stands there. -/
def num (k : Nat) (r : List Int) : Option (Int × Nat) := match k with
  | 0 => dv r
  | 1 => f4 r
  | 2 => f8 r
  | 3 => (dv r).map fun p => (zz32 p.1, p.2)
  | _ => (dv r).map fun p => (zz64 p.1, p.2)

theorem f4_len {r : List Int} {x : Int} {m : Nat} (h : f4 r = some (x, m)) : m ≤ r.length := by
  unfold f4 at h; split at h
  · simp only [Option.some.injEq, Prod.mk.injEq] at h; omega
  · simp at h
theorem f8_len {r : List Int} {x : Int} {m : Nat} (h : f8 r = some (x, m)) : m ≤ r.length := by
  unfold f8 at h; split at h
  · simp only [Option.some.injEq, Prod.mk.injEq] at h; omega
  · simp at h

theorem num_some (w : World) (B : Nat) (A : Option Addr) (cap : Nat) (b : List Int) (i : Nat) (h : IsBuf w B A cap b i) (k : Nat) (hk : k ≤ 4) (x : Int) (m : Nat) (hd : num k (b.drop i) = some (x, m)) :
    Calls Try.prog (47 + k) #[.pointer (some ⟨B, 0, none⟩)] w (NumPost x B A cap b (i + m) w) := by
  have hB := bytes_drop h.holds.1 i
  have hlen : (b.drop i).length = b.length - i := List.length_drop
  have le := h.le
  match k, hk with
  | 0, _ =>
    have hb := dv_bd hB hd
    refine (var_some w B A cap b i h x m hd).mono ?_
    rintro e w1 ⟨rfl, rfl⟩
    exact ⟨rfl, kept_moved h _ (by omega)⟩
  | 1, _ =>
    have hb := f4_len hd
    refine (fix4_any w B A cap b i h x m hd).mono ?_
    rintro e w1 ⟨rfl, rfl⟩
    exact ⟨rfl, kept_moved h _ (by omega)⟩
  | 2, _ =>
    have hb := f8_len hd
    refine (fix8_any w B A cap b i h x m hd).mono ?_
    rintro e w1 ⟨rfl, rfl⟩
    exact ⟨rfl, kept_moved h _ (by omega)⟩
  | 3, _ =>
    simp only [num, Option.map_eq_some_iff] at hd
    obtain ⟨⟨y, m'⟩, hd, he⟩ := hd
    simp only [Prod.mk.injEq] at he
    obtain ⟨rfl, rfl⟩ := he
    have hb := dv_bd hB hd
    refine (zig32_some w B A cap b i h y m' hd).mono ?_
    rintro e w1 ⟨rfl, rfl⟩
    exact ⟨rfl, kept_moved h _ (by omega)⟩
  | 4, _ =>
    simp only [num, Option.map_eq_some_iff] at hd
    obtain ⟨⟨y, m'⟩, hd, he⟩ := hd
    simp only [Prod.mk.injEq] at he
    obtain ⟨rfl, rfl⟩ := he
    have hb := dv_bd hB hd
    refine (zig64_some w B A cap b i h y m' hd).mono ?_
    rintro e w1 ⟨rfl, rfl⟩
    exact ⟨rfl, kept_moved h _ (by omega)⟩

theorem num_none (w : World) (B : Nat) (A : Option Addr) (cap : Nat) (b : List Int) (i : Nat) (h : IsBuf w B A cap b i) (k : Nat) (hk : k ≤ 4) (hd : num k (b.drop i) = none) :
    Calls Try.prog (47 + k) #[.pointer (some ⟨B, 0, none⟩)] w (NoPost B w) := by
  have fin : ∀ e w', ErrPost w e w' → NoPost B w e w' := by
    rintro e w' ⟨x, s, rfl, rfl⟩
    exact ⟨_, _, rfl, World.grownBy.refl _ _⟩
  match k, hk with
  | 0, _ => exact (var_none w B A cap b i h hd).mono fin
  | 1, _ => exact (fix4_nil w B A cap b i h hd).mono fin
  | 2, _ => exact (fix8_nil w B A cap b i h hd).mono fin
  | 3, _ => exact (zig32_none w B A cap b i h (by simpa [num] using hd)).mono fin
  | 4, _ => exact (zig64_none w B A cap b i h (by simpa [num] using hd)).mono fin

/-- A block of bytes of the call's own. -/
def ByteBlk (w : World) (base : Nat) (a : Option Addr) (l : List Int) : Prop := Bytes8 l ∧ (0 < l.length → ∃ g cs fz, a = some ⟨g, 0, none⟩ ∧ base ≤ g ∧ w.heap[g]? = some (.cells cs 5 fz) ∧ ∀ j, j < l.length → cs[j]? = some (.int .u8 (at8 l j)))

def RawPost (l : List Int) (B : Nat) (A : Option Addr) (cap : Nat) (b : List Int) (i : Nat) (w : World) (e : Ending) (w' : World) : Prop :=
  ∃ a c, e = .returned (.tuple #[.slice a l.length c, .nilIface]) ∧ Kept B A cap b i w w' ∧ ByteBlk w' w.heap.size a l
def StrPost (l : List Int) (B : Nat) (A : Option Addr) (cap : Nat) (b : List Int) (i : Nat) (w : World) (e : Ending) (w' : World) : Prop :=
  e = .returned (.tuple #[.string (strOfNums l), .nilIface]) ∧ Kept B A cap b i w w'
def ErrS (B : Nat) (w : World) (e : Ending) (w' : World) : Prop := ∃ t p, e = .returned (.tuple #[.string ByteArray.empty, .iface t p]) ∧ w.grownBy w' (some B)

theorem rb_open {r : List Int} (hB : Bytes8 r) {l : List Int} {m : Nat} (h : rb r = some (l, m)) : ∃ k, dv r = some ((l.length : Int), k) ∧ m = k + l.length ∧ m ≤ r.length ∧ l = (r.drop k).take l.length := by
  unfold rb at h
  cases hv : dv r with
  | none => rw [hv] at h; simp at h
  | some p =>
    obtain ⟨x, k⟩ := p
    have hb := dv_bd hB hv
    rw [hv] at h
    simp only at h
    split at h
    · rename_i hx
      simp only [Option.some.injEq, Prod.mk.injEq] at h
      obtain ⟨rfl, rfl⟩ := h
      have hl : ((r.drop k).take x.toNat).length = x.toNat := by rw [List.length_take, List.length_drop]; omega
      refine ⟨k, ?_, ?_, ?_, ?_⟩
      · rw [hl]; congr 2; omega
      · rw [hl]
      · omega
      · rw [hl]
    · simp at h

theorem part_at {r : List Int} {k : Nat} {l : List Int} (h : l = (r.drop k).take l.length) (j : Nat) (hj : j < l.length) : at8 l j = at8 r (k + j) := by
  rw [h]
  simp [at8, List.getD_eq_getElem?_getD, hj]

end Go.Proofs.Ytobponaenabpgaa.Rd
