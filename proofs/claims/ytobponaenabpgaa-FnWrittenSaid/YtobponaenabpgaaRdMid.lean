/- FnRead's walk: what its parts are told. -/
import Derived.Test.YtobponaenabpgaaRdAid
namespace Go.Proofs.Ytobponaenabpgaa.Rd
open Go.ChangeShapes Go.WideShapes Go.ChangeAt Go.RowKit Sv Go.Proofs.YtobponaenabpgaaW Go.Proofs.YtobponaenabpgaaW.PrintWords
set_option linter.unusedVariables false

theorem clone_any (w : World) (a : Option Addr) (cap : Nat) (l : List Int) (hl : l.length ≤ 100000) (hn : a = none → cap = 0) (h : Holds8 w a l) : Calls Try.prog 19 #[.slice a l.length cap] w (ClonePost l w) := by
  cases a with
  | none =>
    obtain rfl := hn rfl
    obtain rfl : l = [] := by
      rcases Nat.eq_zero_or_pos l.length with h0 | h0
      · exact List.eq_nil_of_length_eq_zero h0
      · obtain ⟨ad, e, _⟩ := h.2.2 h0
        cases e
    exact clone_nil w
  | some ad => exact clone_some ad cap l hl w h

theorem clone64_any (w : World) (a : Option Addr) (cap : Nat) (l : List Int) (hl : l.length ≤ 100000) (hn : a = none → cap = 0) (h : Holds64 w a l) : Calls Try.prog 23 #[.slice a l.length cap] w (ClonePost64 l w) := by
  cases a with
  | none =>
    obtain rfl := hn rfl
    obtain rfl : l = [] := by
      rcases Nat.eq_zero_or_pos l.length with h0 | h0
      · exact List.eq_nil_of_length_eq_zero h0
      · obtain ⟨ad, e, _⟩ := h.2 h0
        cases e
    exact clone64_nil w
  | some ad => exact clone64_some ad cap l hl w h

/-- A slice in a row of one's own. -/
theorem row_open {w : World} {base n : Nat} {e : TypeId} {k : IntKind} {A : Option Addr} {c : Nat} {xs : List Int} (h : w.ownsRow base e 1 (.slice A n c) n (nums k xs)) :
    xs.length = n ∧ n ≤ c ∧ (A = none → c = 0) ∧ (∀ ad, A = some ad → ∃ g, ad = ⟨g, 0, none⟩ ∧ base ≤ g ∧ g < w.heap.size) := by
  have hl : xs.length = n := by have := h.1; simp [nums] at this; exact this
  refine ⟨hl, ?_⟩
  rcases h.2 with ⟨h', hn⟩ | ⟨g, cap, cur, h', hb, hh, hnc, _⟩
  · cases h'
    exact ⟨by omega, fun _ => rfl, fun ad e => by cases e⟩
  · cases h'
    refine ⟨hnc, (fun e => by simp at e), fun ad e => ?_⟩
    cases e
    exact ⟨g, rfl, hb, heap_lt hh⟩

theorem row_holds {w : World} {base n : Nat} {A : Option Addr} {c : Nat} {l : List Int} (hB : Bytes8 l) (hs : l.length ≤ 100000) (h : w.ownsRow base 5 1 (.slice A n c) n (nums .u8 l)) : Holds8 w A l := by
  obtain ⟨hl, hc, hn, ha⟩ := row_open h
  refine ⟨hB, by omega, fun h0 => ?_⟩
  cases A with
  | none => have := hn rfl; omega
  | some ad =>
    obtain ⟨g, rfl, _⟩ := ha ad rfl
    refine ⟨_, rfl, fun j hj => ?_⟩
    have := (own_at h (j : Int) (by omega) (by omega)).1
    rw [PrintWords.add_plain]
    simpa [rd, at8] using this

/-- The kinds' row while it is being brought into bounds. -/
def KRow (w : World) (v : Value) (n j : Nat) (wr : World) : Prop :=
  ∃ xs : List Int, xs.length = n ∧ (∀ x ∈ xs, -9223372036854775808 ≤ x ∧ x ≤ 9223372036854775807) ∧ (∀ i, i < j → ∃ k : Nat, k ≤ 6 ∧ xs.getD i 0 = k) ∧ wr.ownsRow w.heap.size 3 1 v n (nums .i64 xs) ∧ Below w.heap.size w wr

theorem KRow.at {w wr : World} {A : Option Addr} {c n j : Nat} (h : KRow w (.slice A n c) n j wr) (hj : j < n) :
    ∃ g x, A = some ⟨g, 0, none⟩ ∧ w.heap.size ≤ g ∧ wr.cell? ⟨g, j, none⟩ = some (.int .i64 x) ∧ wr.frozen? ⟨g, j, none⟩ = false ∧ -9223372036854775808 ≤ x ∧ x ≤ 9223372036854775807 ∧
      ∀ k : Nat, k ≤ 6 → ∀ w2, wr = w2 → KRow w (.slice A n c) n (j + 1) (w2.setCell ⟨g, j, none⟩ (.int .i64 k)) := by
  obtain ⟨xs, hl, hb, hk, ho, hB⟩ := h
  obtain ⟨_, hc, hn, ha⟩ := row_open ho
  cases A with
  | none => have := hn rfl; omega
  | some ad =>
    obtain ⟨g, rfl, hg, hgs⟩ := ha ad rfl
    obtain ⟨h1, h2⟩ := own_at ho (j : Int) (by omega) (by omega)
    have hm : rd xs (j : Int) ∈ xs := by
      simp only [rd, Int.toNat_natCast, List.getD_eq_getElem?_getD, List.getElem?_eq_getElem (show j < xs.length by omega)]
      exact List.getElem_mem _
    refine ⟨g, rd xs j, rfl, hg, by simpa using h1, by simpa using h2, (hb _ hm).1, (hb _ hm).2, ?_⟩
    rintro k hk6 w2 rfl
    obtain ⟨h3, h4⟩ := own_store ho (j : Int) (k : Int)
    simp only [Int.toNat_natCast] at h3 h4
    refine ⟨xs.set j k, by simp [hl], ?_, ?_, h3, hB.setCell (p := ⟨g, j, none⟩) hg _⟩
    · intro x hx
      rcases List.mem_or_eq_of_mem_set hx with hx | rfl
      · exact hb x hx
      · omega
    · intro i hi
      rcases Nat.lt_or_ge i j with h | h
      · obtain ⟨k', h5, h6⟩ := hk i h
        refine ⟨k', h5, ?_⟩
        rw [← h6]
        simp only [List.getD_eq_getElem?_getD]
        rw [List.getElem?_set_ne (by omega)]
      · obtain rfl : i = j := by omega
        refine ⟨k, hk6, ?_⟩
        simp [List.getD_eq_getElem?_getD, List.getElem?_set_self (show i < xs.length by omega)]

/-- The kinds, brought into bounds. -/
theorem KRow.done {w wr : World} {A : Option Addr} {c n : Nat} (h : KRow w (.slice A n c) n n wr) : ∃ ks : List Nat, ks.length = n ∧ Kinds wr A ks ∧ Below w.heap.size w wr ∧ n ≤ c ∧ (∀ g, A = some ⟨g, 0, none⟩ → g < wr.heap.size) := by
  obtain ⟨xs, hl, hb, hk, ho, hB⟩ := h
  obtain ⟨_, hc, hn, ha⟩ := row_open ho
  refine ⟨xs.map Int.toNat, by simp [hl], ⟨?_, fun h0 => ?_⟩, hB, hc, fun g e => ?_⟩
  · intro k hk'
    obtain ⟨x, hx, rfl⟩ := List.mem_map.1 hk'
    obtain ⟨i, hi, rfl⟩ := List.getElem_of_mem hx
    obtain ⟨k', h5, h6⟩ := hk i (by omega)
    simp only [List.getD_eq_getElem?_getD, List.getElem?_eq_getElem hi] at h6
    simp at h6
    omega
  · simp at h0
    cases A with
    | none => have := hn rfl; omega
    | some ad =>
      obtain ⟨g, rfl, hg, hgs⟩ := ha ad rfl
      refine ⟨_, rfl, fun j hj => ?_⟩
      simp at hj
      have h1 := (own_at ho (j : Int) (by omega) (by omega)).1
      obtain ⟨k', h5, h6⟩ := hk j (by omega)
      rw [PrintWords.add_plain]
      simp only [List.getElem_map]
      simp only [rd, Int.toNat_natCast] at h1
      rw [h1]
      simp only [List.getD_eq_getElem?_getD, List.getElem?_eq_getElem hj] at h6 ⊢
      simp at h6 ⊢
      omega
  · obtain ⟨g', e', _, h⟩ := ha _ e
    injection e' with e'
    subst e'
    exact h

/-- One item of the row. -/
theorem items_at {w : World} {base n : Nat} {A : Option Addr} {c : Nat} {its : List It} (h : Items w base (.slice A n c) its) : n = its.length ∧ ∀ j (hj : j < its.length), ∃ g a cb, A = some ⟨g, 0, none⟩ ∧ Sl8 w a (its[j]).bytes ∧
    w.cell? ⟨g, j * 3 + 0, none⟩ = some (.int .i64 (its[j]).kind) ∧ w.cell? ⟨g, j * 3 + 1, none⟩ = some (.int .u64 (its[j]).n) ∧ w.cell? ⟨g, j * 3 + 2, none⟩ = some (.slice a (its[j]).bytes.length cb) := by
  obtain ⟨q, hq, ho, hb⟩ := h
  have hlq : q.length = its.length := by rw [← hq]; simp
  have hnn : n = its.length := by
    rcases ho.2 with ⟨h', hn⟩ | ⟨g, cap, cur, h', _⟩
    · cases h'; omega
    · cases h'; rfl
  refine ⟨hnn, fun j hj => ?_⟩
  have hjq : j < q.length := by omega
  have hit : its[j] = (q[j]).1 := by subst hq; simp
  have hget : ∀ (qq : List (It × Option Addr × Nat)) (j : Nat) (hj : j < qq.length) (i : Nat), i < 3 → (qq.flatMap row3)[j * 3 + i]? = (row3 (qq[j]))[i]? := by
    intro qq
    induction qq with
    | nil => intro j hj; simp at hj
    | cons x r ih =>
      intro j hj i hi
      rw [List.flatMap_cons]
      cases j with
      | zero => rw [List.getElem?_append_left (by simp [row3]; omega)]; simp
      | succ j =>
        rw [List.getElem?_append_right (by simp [row3]; omega)]
        have := ih j (by simpa using hj) i hi
        simp only [List.getElem_cons_succ]
        rw [← this]
        congr 1
        simp [row3]
        omega
  rcases ho.2 with ⟨h', hn⟩ | ⟨g, cap, cur, h', _⟩
  · omega
  · cases h'
    have hcell : ∀ i (hi : i < 3) u, (row3 (q[j]))[i]? = some u → w.cell? ⟨g, j * 3 + i, none⟩ = some u := by
      intro i hi u hu
      have := ho.cells (g := g) rfl (j * 3 + i) u (by rw [hget q j hjq i hi]; exact hu)
      rwa [PrintWords.add_plain] at this
    have hbb := hb (q[j]) (List.getElem_mem hjq)
    refine ⟨g, (q[j]).2.1, (q[j]).2.2, rfl, ?_, ?_, ?_, ?_⟩
    · rw [hit]
      refine ⟨hbb.1, fun h0 => ?_⟩
      obtain ⟨g1, cs, fz, e, _, hh, hcc⟩ := hbb.2 h0
      refine ⟨g1, 0, e, fun i hi => ?_⟩
      have := hcc i hi
      rw [Nat.zero_add]
      simp only [World.cell?, hh]
      simpa using this
    · rw [hit]; exact hcell 0 (by omega) _ rfl
    · rw [hit]; exact hcell 1 (by omega) _ rfl
    · rw [hit]; exact hcell 2 (by omega) _ rfl

theorem one_len {k : Nat} (hk : k ≤ 6) {r : List Int} (hB : Bytes8 r) {it : It} {m : Nat} (h : one k r = some (it, m)) : m ≤ r.length := by
  by_cases h4 : k ≤ 4
  · rw [one_num h4, Option.map_eq_some_iff] at h
    obtain ⟨⟨x, m'⟩, h1, h2⟩ := h
    cases h2
    have hk' : k = 0 ∨ k = 1 ∨ k = 2 ∨ k = 3 ∨ k = 4 := by omega
    rcases hk' with rfl | rfl | rfl | rfl | rfl
    · exact (dv_bd hB h1).2.2
    · exact f4_len h1
    · exact f8_len h1
    · simp only [num, Option.map_eq_some_iff] at h1
      obtain ⟨⟨y, m'⟩, h1, h2⟩ := h1
      cases h2
      exact (dv_bd hB h1).2.2
    · simp only [num, Option.map_eq_some_iff] at h1
      obtain ⟨⟨y, m'⟩, h1, h2⟩ := h1
      cases h2
      exact (dv_bd hB h1).2.2
  · rw [one_raw h4, Option.map_eq_some_iff] at h
    obtain ⟨⟨l, m'⟩, h1, h2⟩ := h
    cases h2
    obtain ⟨_, _, _, h, _⟩ := rb_open hB h1
    exact h

/-- What stands while the reference reads on. -/
def Going (w : World) (B : List Int) (ks : List Nat) (its : List It) (j i : Nat) (a : Option Addr) (c : Nat) (wr : World) : Prop :=
  Ahead ks B its j i ∧ its.length = j ∧ Sl8 wr a (B.drop i) ∧ (B.drop i).length ≤ c ∧ Below w.heap.size w wr

theorem Going.next {w : World} {B : List Int} {ks : List Nat} {its : List It} {j i : Nat} {a : Option Addr} {c : Nat} {wr w1 : World} (h : Going w B ks its j i a c wr) (hj : j < ks.length) {it : It} {m : Nat} (h6 : ks[j] ≤ 6) (ho : one (ks[j]) (B.drop i) = some (it, m)) (h0 : 0 < m) (hb : Below wr.heap.size wr w1) :
    ∃ g off, a = some ⟨g, off, none⟩ ∧ m ≤ (B.drop i).length ∧ ∀ a' c', (m < (B.drop i).length → a' = some ⟨g, off + m, none⟩) → (B.drop i).length - m ≤ c' → Going w B ks (its ++ [it]) (j + 1) (i + m) a' c' w1 := by
  obtain ⟨h1, h2, h3, h4, h5⟩ := h
  have hm := one_len h6 h3.1 ho
  obtain ⟨g, off, e, hc⟩ := h3.2 (by omega)
  refine ⟨g, off, e, hm, fun a' c' ha hc' => ⟨ahead_step h1 hj ho, by simp [h2], ⟨by rw [← List.drop_drop]; exact bytes_drop h3.1 _, fun h0 => ?_⟩, ?_, h5.trans (hb.mono h5.size)⟩⟩
  · rw [← List.drop_drop, List.length_drop] at h0
    refine ⟨g, off + m, ha (by omega), fun x hx => ?_⟩
    rw [← List.drop_drop, List.length_drop] at hx
    rw [show off + m + x = off + (m + x) from by omega, pw_cell_below hb (hc (m + x) (by omega)), ← List.drop_drop, drop_at (B.drop i)]
  · rw [← List.drop_drop, List.length_drop]
    exact hc'

theorem Kinds.below {w w1 : World} {A : Option Addr} {ks : List Nat} (h : Kinds w A ks) (hb : Below w.heap.size w w1) : Kinds w1 A ks :=
  ⟨h.1, fun h0 => by
    obtain ⟨ad, e, hc⟩ := h.2 h0
    exact ⟨ad, e, fun j hj => pw_cell_below hb (hc j hj)⟩⟩

theorem holds_sl8 {w : World} {a : Option Addr} {l : List Int} (h : Holds8 w a l) : Sl8 w a l :=
  ⟨h.1, fun h0 => by
    obtain ⟨ad, rfl, hc⟩ := h.2.2 h0
    obtain ⟨g, off, rfl, hc'⟩ := ints_at hc h0
    exact ⟨g, off, rfl, hc'⟩⟩

end Go.Proofs.Ytobponaenabpgaa.Rd
