/- FnWritten's walk: what its second half is told. -/
import Derived.Test.YtobponaenabpgaaWrMid
namespace Go.Proofs.Ytobponaenabpgaa.Rd
open Go.ChangeShapes Go.WideShapes Go.ChangeAt Go.RowKit Sv Go.Proofs.YtobponaenabpgaaW Go.Proofs.YtobponaenabpgaaW.PrintWords
set_option linter.unusedVariables false

theorem own_len {w : World} {b e s n m : Nat} {v : Value} {xs : List Value} (h : w.ownsRow b e s v n xs) (hn : n = m) : w.ownsRow b e s v m xs := by rw [← hn]; exact h

theorem own_m {w : World} {b e s n m : Nat} {A : Option Addr} {c : Nat} {xs : List Value} (h : w.ownsRow b e s (.slice A m c) n xs) : m = n := by
  obtain ⟨A', c', e⟩ := own_slice h
  cases e
  rfl

theorem lo_bytes : ∀ (k : Nat) (x : Int), Bytes8 (lo k x)
  | 0, x => fun y hy => by simp [lo] at hy
  | k + 1, x => fun y hy => by
    simp only [lo, List.mem_cons] at hy
    rcases hy with rfl | hy
    · omega
    · exact lo_bytes k _ y hy

theorem bytes_append {a b : List Int} (ha : Bytes8 a) (hb : Bytes8 b) : Bytes8 (a ++ b) := fun x hx => by
  rcases List.mem_append.1 hx with h | h
  · exact ha x h
  · exact hb x h

theorem encIt_bytes {it : It} (h : Fit it) (hb : Bytes8 it.bytes) : Bytes8 (encIt it.kind it.n it.bytes) := by
  obtain ⟨k, n, l⟩ := it
  obtain ⟨h1, _⟩ := h
  simp only at h1 hb ⊢
  have hc : k = 0 ∨ k = 1 ∨ k = 2 ∨ k = 3 ∨ k = 4 ∨ k = 5 ∨ k = 6 := by omega
  rcases hc with rfl | rfl | rfl | rfl | rfl | rfl | rfl <;> simp only [encIt]
  · exact sev_bytes _
  · exact lo_bytes _ _
  · exact lo_bytes _ _
  · exact sev_bytes _
  · exact sev_bytes _
  · exact bytes_append (sev_bytes _) hb
  · exact bytes_append (sev_bytes _) hb

theorem encs_bytes : ∀ (q : List It), (∀ x ∈ q, Fit x ∧ Bytes8 x.bytes) → Bytes8 (encs' q)
  | [], _ => fun x hx => by simp [encs'] at hx
  | x :: r, h => bytes_append (encIt_bytes (h x (by simp)).1 (h x (by simp)).2) (encs_bytes r fun y hy => h y (by simp [hy]))

theorem given_bytes {w : World} {A : Option Addr} {q : List Raw} (h : Given w A q) : Bytes8 (encs' (q.map itOf)) :=
  encs_bytes _ fun y hy => by
    obtain ⟨x, hx, rfl⟩ := List.mem_map.1 hy
    exact ⟨(h.bytes _ hy).1, (h.ok x hx).holds.1⟩

theorem mid_done {wc wr : World} {q : List Raw} {A : Option Addr} {A5 : Option Addr} {m5 c5 : Nat} {A6 : Option Addr} {c6 : Nat} (hG : Given wc A q) (h : Mid wc q q.length (.slice A5 m5 c5) (.slice A6 q.length c6) wr) {L : List Int} (hL : encs' (q.map itOf) = L) :
    m5 = L.length ∧ L.length ≤ 9300 ∧ Bytes8 L ∧ Holds8 wr A5 L ∧ (A5 = none → c5 = 0) ∧ Kinds wr A6 ((q.map itOf).map (·.kind)) ∧ Given wr A q ∧ Below wc.heap.size wc wr := by
  obtain ⟨h1, h2, h3⟩ := h
  have hl := hG.take_len q.length
  rw [List.take_of_length_le (by simp)] at h1 hl
  rw [List.take_of_length_le (by simp)] at h2
  have hB := given_bytes hG
  rw [hL] at h1 hl hB
  obtain rfl := own_m h1
  obtain ⟨_, _, h5, _⟩ := row_open h1
  exact ⟨rfl, hl, hB, row_holds hB (by omega) h1, h5, kinds_own hG.fit h2, hG.below h3, h3⟩

theorem row_sl8 {w : World} {base : Nat} {v : Value} {L : List Int} (h : Row8 base w v L) (hl : L.length ≤ 9300) (hB : Bytes8 L) : ∃ A c, v = .slice A L.length c ∧ Sl8 w A L := by
  obtain ⟨A, c, rfl⟩ := own_slice h
  exact ⟨A, c, rfl, holds_sl8 (row_holds hB (by omega) h)⟩

/-- What is read back. -/
def ReadBack (q : List Raw) (R : List Int) (w : World) (e : Ending) (w' : World) : Prop :=
  ∃ AI cI ar cr, e = .returned (.tuple #[.slice AI q.length cI, .slice ar R.length cr, .bool true]) ∧ Items w' (w.heap.size + 1) (.slice AI q.length cI) ((q.map itOf).map wholeIt) ∧ Sl8 w' ar R ∧ Below w.heap.size w w'

theorem read_back {w wr : World} {q : List Raw} {A : Option Addr} (hG : Given wr A q) {L R : List Int} (hL : encs' (q.map itOf) = L) (hl : L.length ≤ 9300) (hr : R.length ≤ 100) (hB : Bytes8 L) (hR : Bytes8 R) {A6 : Option Addr} (hK : Kinds wr A6 ((q.map itOf).map (·.kind))) (hb : Below wr.heap.size wr w)
    {base N : Nat} {A4 : Option Addr} {c4 : Nat} (hN : (L ++ R).length = N) (ho : w.ownsRow base 5 1 (.slice A4 N c4) N (nums .u8 (L ++ R))) (c6 : Nat) : Calls Try.prog 25 #[.slice A4 N c4, .slice A6 q.length c6] w (ReadBack q R w) := by
  subst hN
  obtain ⟨_, h2, h3, h4⟩ := row_open ho
  have hlen : (L ++ R).length ≤ 100000 := by simp; omega
  have hq := hG.few
  have hread := read_any w A4 c4 (L ++ R) A6 c6 ((q.map itOf).map (·.kind)) hlen (by simp; omega) h2 (row_holds (bytes_append hB hR) hlen ho) (fun ad e => by obtain ⟨g, h5, _, h6⟩ := h4 ad e; exact ⟨g, h5, h6⟩) (hK.below hb)
  rw [← hL, many_enc _ R fun it hit => (hG.bytes it hit).1, hL] at hread
  have hread := calls_at (m := q.length) hread (by simp)
  refine hread.mono ?_
  rintro e w' ⟨v, ar, cr, rfl, hit, hs, hbb⟩
  obtain ⟨A', c', rfl⟩ : ∃ A c, v = .slice A q.length c := by
    obtain ⟨q', hq', ho', _⟩ := hit
    have : ((q.map itOf).map wholeIt).length = q.length := by simp
    rw [this] at ho'
    exact own_slice ho'
  exact ⟨A', c', ar, cr, rfl, hit, hs, hbb⟩

/-- One value that has been read back. -/
theorem back_at {W : World} {base : Nat} {A : Option Addr} {c n : Nat} {q : List Raw} (h : Items W base (.slice A n c) ((q.map itOf).map wholeIt)) {j : Nat} (hj : j < q.length) {x : Raw} (hx : q[j] = x) {k : Nat} (hk : x.kind = k) :
    ∃ g a cb, A = some ⟨g, 0, none⟩ ∧ Sl8 W a x.bytes ∧ W.cell? ⟨g, j * 3, none⟩ = some (.int .i64 k) ∧ W.cell? ⟨g, j * 3 + 1, none⟩ = some (.int .u64 (wholeN k x.n)) ∧ W.cell? ⟨g, j * 3 + 2, none⟩ = some (.slice a x.bytes.length cb) := by
  have he : ((q.map itOf).map wholeIt)[j]'(by simpa using hj) = ⟨k, wholeN k x.n, x.bytes⟩ := by
    simp only [List.getElem_map, hx, itOf, wholeIt, hk, Int.toNat_natCast]
  obtain ⟨g, a, cb, h1, h2, h3, h4, h5⟩ := item_here h (by simpa using hj) he
  exact ⟨g, a, cb, h1, h2, h3, h4, h5⟩

end Go.Proofs.Ytobponaenabpgaa.Rd
