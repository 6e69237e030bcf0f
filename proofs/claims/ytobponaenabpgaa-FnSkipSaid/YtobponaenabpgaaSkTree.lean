/- Fields of messages as trees: their bytes, their cells. No program in sight. -/
import Derived.Test.YtobponaenabpgaaWrPure
import Derived.Test.YtobponaenabpgaaWrLow
namespace Go.Proofs.Ytobponaenabpgaa.Rd
open Go.ChangeShapes Go.WideShapes Go.ChangeAt Go.RowKit Sv Go.Proofs.YtobponaenabpgaaW Go.Proofs.YtobponaenabpgaaW.PrintWords
set_option linter.unusedVariables false

/-- A field as it lies in memory. -/
structure Tr where
  num : Int
  kind : Int
  n : Int
  bytes : List Int
  ba : Option Addr
  bc : Nat
  ins : List Tr
  ia : Option Addr
  ic : Nat

def cellsT (t : Tr) : List Value := [.int .i64 t.num, .int .i64 t.kind, .int .u64 t.n, .slice t.ba t.bytes.length t.bc, .slice t.ia t.ins.length t.ic]

/-- What is known of its own cells' contents. -/
structure OwnOk (p : Nat → Prop) (w : World) (t : Tr) : Prop where
  m0 : -9223372036854775808 ≤ t.num
  m1 : t.num ≤ 9223372036854775807
  k0 : -9223372036854775808 ≤ t.kind
  k1 : t.kind ≤ 9223372036854775807
  n0 : 0 ≤ t.n
  n1 : t.n ≤ 18446744073709551615
  b8 : Bytes8 t.bytes
  bl : t.bytes.length ≤ t.bc
  bn : t.ba = none → t.bc = 0
  bm : t.bytes.length ≤ 9223372036854775807
  bh : 0 < t.bytes.length → ∃ ad, t.ba = some ad ∧ p ad.block ∧ ∀ j, j < t.bytes.length → w.cell? (ad.add j) = some (.int .u8 (at8 t.bytes j))
  il : t.ins.length ≤ t.ic
  inn : t.ia = none → t.ic = 0
  im : t.ins.length ≤ 9223372036854775807
  ih : 0 < t.ins.length → ∃ ad, t.ia = some ad ∧ p ad.block ∧ ∀ j u, (t.ins.flatMap cellsT)[j]? = some u → w.cell? (ad.add j) = some u

/-- .. and of all that it leads to, so many steps deep. -/
def OkT (p : Nat → Prop) (w : World) : Nat → Tr → Prop
  | 0, _ => False
  | h + 1, t => OwnOk p w t ∧ ∀ x ∈ t.ins, OkT p w h x

/-- The fields of which the statement speaks. -/
def FitT : Nat → Tr → Prop
  | 0, t => 1 ≤ t.num ∧ t.num ≤ 536870911 ∧ (t.kind = 0 ∨ t.kind = 1 ∨ t.kind = 2 ∨ t.kind = 5) ∧ t.bytes.length ≤ 200 ∧ t.ins.length ≤ 5
  | d + 1, t => 1 ≤ t.num ∧ t.num ≤ 536870911 ∧ (t.kind = 0 ∨ t.kind = 1 ∨ t.kind = 2 ∨ t.kind = 3 ∨ t.kind = 5) ∧ t.bytes.length ≤ 200 ∧ t.ins.length ≤ 5 ∧ (t.kind = 3 → ∀ x ∈ t.ins, FitT d x)

/-- What stands behind a field's number. -/
def bodyT (inner : List Int) (t : Tr) : List Int :=
  if t.kind = 0 then sev t.n.toNat else if t.kind = 1 then lo 8 t.n else if t.kind = 2 then sev t.bytes.length ++ t.bytes else if t.kind = 3 then inner ++ sev (t.num * 8 + 4).toNat else lo 4 t.n

/-- A field as bytes. -/
def encT : Nat → Tr → List Int
  | 0, t => sev (t.num * 8 + t.kind).toNat ++ bodyT [] t
  | d + 1, t => sev (t.num * 8 + t.kind).toNat ++ bodyT (t.ins.flatMap (encT d)) t

theorem OwnOk.keep {p q : Nat → Prop} {w w1 : World} {t : Tr} (h : OwnOk p w t) (hq : ∀ b, p b → b < w.heap.size → q b) (hw : ∀ b, p b → b < w.heap.size → w1.heap[b]? = w.heap[b]?) : OwnOk q w1 t :=
  { h with
    bh := fun h0 => by
      obtain ⟨ad, e, hp, hc⟩ := h.bh h0
      have hb : ad.block < w.heap.size := by have := World.block_lt_of_cell? w _ (hc 0 h0); rwa [add_block] at this
      exact ⟨ad, e, hq _ hp hb, fun j hj => (World.cell?_of_block (by rw [add_block]; exact hw _ hp hb)).trans (hc j hj)⟩
    ih := fun h0 => by
      obtain ⟨ad, e, hp, hc⟩ := h.ih h0
      have h1 : ∃ u, (t.ins.flatMap cellsT)[0]? = some u := by
        match h2 : t.ins with
        | [] => simp [h2] at h0
        | x :: r => exact ⟨_, rfl⟩
      obtain ⟨u, hu⟩ := h1
      have hb : ad.block < w.heap.size := by have := World.block_lt_of_cell? w _ (hc 0 u hu); rwa [add_block] at this
      exact ⟨ad, e, hq _ hp hb, fun j u hu => (World.cell?_of_block (by rw [add_block]; exact hw _ hp hb)).trans (hc j u hu)⟩ }

theorem OkT.keep {p q : Nat → Prop} {w w1 : World} (hq : ∀ b, p b → b < w.heap.size → q b) (hw : ∀ b, p b → b < w.heap.size → w1.heap[b]? = w.heap[b]?) : ∀ {h : Nat} {t : Tr}, OkT p w h t → OkT q w1 h t
  | 0, _, h => h
  | h + 1, t, hh => ⟨hh.1.keep hq hw, fun x hx => OkT.keep hq hw (hh.2 x hx)⟩

theorem OkT.below {p : Nat → Prop} {w w1 : World} {h : Nat} {t : Tr} (hh : OkT p w h t) (hb : Below w.heap.size w w1) : OkT p w1 h t :=
  hh.keep (fun _ hp _ => hp) (fun b _ hlt => hb.block b hlt)

theorem OkT.own {p : Nat → Prop} {w : World} {h : Nat} {t : Tr} (hh : OkT p w h t) : OwnOk p w t := by
  cases h with
  | zero => exact hh.elim
  | succ h => exact hh.1

theorem encT_eq (d : Nat) (t : Tr) : ∃ inner, encT d t = sev (t.num * 8 + t.kind).toNat ++ bodyT inner t ∧ (t.kind ≠ 3 → True) ∧ (∀ d', d = d' + 1 → inner = t.ins.flatMap (encT d')) := by
  cases d with
  | zero => exact ⟨[], rfl, fun _ => trivial, fun d' e => by cases e⟩
  | succ d => exact ⟨_, rfl, fun _ => trivial, fun d' e => by cases e; rfl⟩

/-- How long the bytes are at most. -/
def bdT : Nat → Nat
  | 0 => 300
  | d + 1 => 5 * bdT d + 300

theorem tag_len {m : Int} (h0 : 1 ≤ m) (h1 : m ≤ 536870911) {k : Int} (hk : 0 ≤ k) (hk7 : k ≤ 7) : (sev (m * 8 + k).toNat).length ≤ 5 :=
  sev_len 4 _ (by have : (2 : Nat) ^ (7 * (4 + 1)) = 34359738368 := by decide
                  rw [this]; omega)

theorem body_len {p : Nat → Prop} {w : World} {t : Tr} (ho : OwnOk p w t) (h0 : 1 ≤ t.num) (h1 : t.num ≤ 536870911) (hb : t.bytes.length ≤ 200) (inner : List Int) : (bodyT inner t).length ≤ inner.length + 250 := by
  have s1 := sev_len10 (n := t.n.toNat) (by have := ho.n1; omega)
  have s2 := sev_len10 (n := t.bytes.length) (by omega)
  have s3 := tag_len h0 h1 (k := 4) (by omega) (by omega)
  unfold bodyT
  split
  · omega
  · split
    · rw [lo_len]; omega
    · split
      · rw [List.length_append]; omega
      · split
        · rw [List.length_append]; omega
        · rw [lo_len]; omega

theorem flat_len {f : Tr → List Int} {B : Nat} : ∀ (l : List Tr), (∀ x ∈ l, (f x).length ≤ B) → (l.flatMap f).length ≤ l.length * B
  | [], _ => by simp
  | x :: r, h => by
    have h1 := h x (by simp)
    have h2 := flat_len r fun y hy => h y (by simp [hy])
    rw [List.flatMap_cons, List.length_append, List.length_cons, Nat.add_mul]
    omega

theorem encT_len {p : Nat → Prop} {w : World} : ∀ (d : Nat) {h : Nat} {t : Tr}, OkT p w h t → FitT d t → (encT d t).length ≤ bdT d
  | 0, h, t, ho, hf => by
    obtain ⟨f1, f2, f3, f4, f5⟩ := hf
    have h1 := body_len ho.own f1 f2 f4 []
    have h2 := tag_len f1 f2 (k := t.kind) (by omega) (by omega)
    simp only [encT, List.length_append, bdT, List.length_nil] at h1 ⊢
    omega
  | d + 1, 0, t, ho, hf => ho.elim
  | d + 1, h + 1, t, ho, hf => by
    obtain ⟨f1, f2, f3, f4, f5, f6⟩ := hf
    have h2 := tag_len f1 f2 (k := t.kind) (by omega) (by omega)
    by_cases k3 : t.kind = 3
    · have h1 := body_len ho.own f1 f2 f4 (t.ins.flatMap (encT d))
      have h3 := flat_len (f := encT d) t.ins fun x hx => encT_len d (ho.2 x hx) (f6 k3 x hx)
      have h4 := Nat.mul_le_mul_right (bdT d) f5
      simp only [encT, List.length_append, bdT]
      omega
    · have h1 := body_len ho.own f1 f2 f4 []
      have he : bodyT (t.ins.flatMap (encT d)) t = bodyT [] t := by unfold bodyT; simp only [if_neg k3]
      simp only [encT, List.length_append, bdT, he, List.length_nil] at h1 ⊢
      omega

theorem bdT_7 : ∀ d, d ≤ 7 → bdT d ≤ 30000000 := by decide

end Go.Proofs.Ytobponaenabpgaa.Rd
