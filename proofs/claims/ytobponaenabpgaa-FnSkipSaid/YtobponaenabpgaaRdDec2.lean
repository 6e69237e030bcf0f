/- The buffer's reading of bytes and texts, by what it reads and what it leaves. -/
import Derived.Test.YtobponaenabpgaaRdDec
namespace Go.Proofs.Ytobponaenabpgaa.Rd
open Go.ChangeShapes Go.WideShapes Go.ChangeAt Go.RowKit Sv Go.Proofs.YtobponaenabpgaaW Go.Proofs.YtobponaenabpgaaW.PrintWords
set_option linter.unusedVariables false

/-- The cells of the bytes behind their number. -/
theorem part_cells {w : World} {B : Nat} {A : Option Addr} {cap : Nat} {b : List Int} {i : Nat} (h : IsBuf w B A cap b i) (k : Nat) (hk : k ≤ b.length) (hb : 0 < b.length) :
    ∃ g, A = some ⟨g, 0, none⟩ ∧ ¬ g = B ∧ ∀ j, j < b.length → (moved w B k).cell? ⟨g, j, none⟩ = some (.int .u8 (at8 b j)) := by
  obtain ⟨ad, rfl, hc⟩ := (h.moved k hk).holds.2.2 hb
  obtain ⟨g, rfl, hg⟩ := h.ne _ rfl
  refine ⟨g, rfl, hg, fun j hj => ?_⟩
  have := hc j hj
  rwa [PrintWords.add_plain] at this

theorem own_byteblk {w : World} {base B k : Nat} {a : Option Addr} {c : Nat} {l : List Int} (hB : Bytes8 l) (h : w.ownsRow base 5 1 (.slice a l.length c) l.length (nums .u8 l)) (hb : B < base) : ByteBlk (moved w B k) base a l := by
  refine ⟨hB, fun hn => ?_⟩
  rcases h.2 with ⟨h', h0⟩ | ⟨g, cap, cur, h', hg, hh, hnc, hcm, hcs, htake⟩
  · omega
  · simp only [Value.slice.injEq] at h'
    obtain ⟨rfl, _, rfl⟩ := h'
    refine ⟨g, cur, (0, 0), rfl, hg, ?_, fun j hj => ?_⟩
    · have : (moved w B k).heap[g]? = w.heap[g]? := heap_setCell_other w ⟨B, 1, none⟩ g _ (by simp; omega)
      rw [this, hh]
    · have e : (cur.toList.take (l.length * 1))[j]? = (nums .u8 l)[j]? := by rw [htake]
      rw [Nat.mul_one, List.getElem?_take_of_lt hj, Array.getElem?_toList] at e
      rw [e]
      simp [nums, at8, List.getElem?_eq_getElem hj, List.getD_eq_getElem?_getD]

theorem raw_true (w : World) (B : Nat) (A : Option Addr) (cap : Nat) (b : List Int) (i : Nat) (h : IsBuf w B A cap b i) (l : List Int) (m : Nat) (hd : rb (b.drop i) = some (l, m)) :
    Calls Try.prog 52 #[.pointer (some ⟨B, 0, none⟩), .bool true] w (RawPost l B A cap b (i + m) w) := by
  have hBd := bytes_drop h.holds.1 i
  have hlen : (b.drop i).length = b.length - i := List.length_drop
  have le := h.le
  have lt := h.lt
  obtain ⟨k, hv, rfl, hm, hl⟩ := rb_open hBd hd
  have hv0 := dv_bd hBd hv
  have hi : 0 < (b.drop i).length := by
    unfold dv at hv
    split at hv
    · omega
    · simp at hv
  obtain ⟨g, rfl, hg, hc⟩ := part_cells h (i + k) (by omega) (by omega)
  have h1 := h.moved (i + k) (by omega)
  have hs : (moved w B (i + k)).heap.size = w.heap.size := by simp [moved]
  have hlB : Bytes8 l := by rw [hl]; exact bytes_take (bytes_drop hBd k) _
  refine (copy_some w B g cap b.length i l (i + k) (moved w B (i + k)) (by omega) h.small (by omega) h.room hg h1.c0 h1.c1 h1.f1 (fun j hj => ?_) (var_some w B _ cap b i h _ k hv)).mono ?_
  · rw [hc (i + k + j) (by omega), part_at hl j hj, drop_at, Nat.add_assoc]
  · rintro e w1 ⟨a, c, w3, rfl, ho, hb, rfl⟩
    rw [hs] at ho
    have hb' : Below (moved w B (i + k)).heap.size (moved w B (i + k)) w3 := hb
    refine ⟨a, c, rfl, ⟨World.grownBy.trans (moved_grown w B (i + k)) (World.grownBy.trans (grown_of_below hb' (some B)) (moved_grown w3 B _)), ?_⟩, own_byteblk hlB ho lt⟩
    rw [← Nat.add_assoc]
    exact (h1.below hb').moved _ (by omega)

theorem str_some (w : World) (B : Nat) (A : Option Addr) (cap : Nat) (b : List Int) (i : Nat) (h : IsBuf w B A cap b i) (l : List Int) (m : Nat) (hd : rb (b.drop i) = some (l, m)) :
    Calls Try.prog 53 #[.pointer (some ⟨B, 0, none⟩)] w (StrPost l B A cap b (i + m) w) := by
  have hBd := bytes_drop h.holds.1 i
  have hlen : (b.drop i).length = b.length - i := List.length_drop
  have le := h.le
  have lt := h.lt
  obtain ⟨k, hv, rfl, hm, hl⟩ := rb_open hBd hd
  have hi : 0 < (b.drop i).length := by
    unfold dv at hv
    split at hv
    · omega
    · simp at hv
  obtain ⟨g, rfl, hg, hc⟩ := part_cells h (i + k) (by omega) (by omega)
  have h1 := h.moved (i + k) (by omega)
  have hlB : Bytes8 l := by rw [hl]; exact bytes_take (bytes_drop hBd k) _
  have hcell : ∀ n j, j < l.length → (moved ((moved w B (i + k)).drewN n) B (i + k + l.length)).cell? ⟨g, i + k + j, none⟩ = some (.int .u8 (at8 l j)) := by
    intro n j hj
    have e1 : (moved ((moved w B (i + k)).drewN n) B (i + k + l.length)).cell? ⟨g, i + k + j, none⟩ = ((moved w B (i + k)).drewN n).cell? ⟨g, i + k + j, none⟩ :=
      World.cell?_setCell_other _ _ _ _ (by simp only [ne_eq, Addr.mk.injEq, not_and]; intro e; exact absurd e.symm hg)
    rw [e1, show ((moved w B (i + k)).drewN n).cell? ⟨g, i + k + j, none⟩ = (moved w B (i + k)).cell? ⟨g, i + k + j, none⟩ from rfl]
    rw [hc (i + k + j) (by omega), part_at hl j hj, drop_at, Nat.add_assoc]
  have HP := Lib.hid (part_some w B g cap b.length i l.length (i + k) (moved w B (i + k)) h.small (by omega) h.room hg h1.c0 h1.c1 h1.f1 (var_some w B _ cap b i h _ k hv))
  have HC := Lib.hid hcell
  have HK : Hid (∀ n, Kept B (some ⟨g, 0, none⟩) cap b (i + (k + l.length)) w (moved ((moved w B (i + k)).drewN n) B (i + k + l.length))) := by
    refine Lib.hid fun n => ⟨World.grownBy.trans (moved_grown w B (i + k)) (World.grownBy.trans (grown_drewN _ n _) (moved_grown _ B _)), ?_⟩
    rw [← Nat.add_assoc]
    exact (h1.drewN n).moved _ (by omega)
  clear hcell hc h h1 hd hv hl hBd hm hlen
  go_enter Try.func53, Try.ntmps53
  go_wp2_with fail
  refine HP.out.mono ?_
  rintro e w1 ⟨a, c, n, ha, rfl, rfl⟩
  have hcv := sl8_string (w := moved ((moved w B (i + k)).drewN n) B (i + k + l.length)) (a := a) (l := l) ⟨hlB, fun h0 => ⟨g, i + k, ha h0, HC.out n⟩⟩ c
  have HA := Lib.hid ha
  clear ha
  have HKn := Lib.hid (HK.out n)
  clear HK HC
  generalize moved ((moved w B (i + k)).drewN n) B (i + k + l.length) = w2 at *
  go_wp2
  go_returns
  exact ⟨rfl, HKn.out⟩

theorem str_none (w : World) (B : Nat) (A : Option Addr) (cap : Nat) (b : List Int) (i : Nat) (h : IsBuf w B A cap b i) (hd : rb (b.drop i) = none) :
    Calls Try.prog 53 #[.pointer (some ⟨B, 0, none⟩)] w (ErrS B w) := by
  have HP := Lib.hid (raw_none false w B A cap b i h hd)
  clear h hd
  go_enter Try.func53, Try.ntmps53
  go_wp2_with fail
  refine HP.out.mono ?_
  rintro e w1 ⟨t, p, rfl, hb⟩
  have HB := Lib.hid hb
  clear hb
  go_wp2
  go_returns
  exact ⟨_, _, rfl, HB.out⟩

end Go.Proofs.Ytobponaenabpgaa.Rd
