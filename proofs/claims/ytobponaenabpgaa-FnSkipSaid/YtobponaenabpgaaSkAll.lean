/- A field that is skipped has as many bytes as it was written with. -/
import Derived.Test.YtobponaenabpgaaSkGroup
namespace Go.Proofs.Ytobponaenabpgaa.Rd
open Go.ChangeShapes Go.WideShapes Go.ChangeAt Go.RowKit Sv Go.Proofs.YtobponaenabpgaaW Go.Proofs.YtobponaenabpgaaW.PrintWords
set_option linter.unusedVariables false

theorem tag_at {num kind : Int} (h0 : 1 ≤ num) (h1 : num ≤ 536870911) (k0 : 0 ≤ kind) (k7 : kind ≤ 7) {l r : List Int} {p : Nat} (h : l.drop p = sev (num * 8 + kind).toNat ++ r) :
    ∃ k, (sev (num * 8 + kind).toNat).length = k + 1 ∧ k ≤ 4 ∧ NumAt l p (num * 8 + kind).toNat k ∧ (num * 8 + kind).toNat % 8 = kind.toNat ∧ (((num * 8 + kind).toNat : Nat) : Int) ≤ 34359738367 := by
  have h2 := tag_len h0 h1 k0 k7
  have h3 := sev_pos (num * 8 + kind).toNat
  exact ⟨(sev (num * 8 + kind).toNat).length - 1, by omega, by omega, numAt_of h, by omega, by omega⟩

theorem drop_app {α : Type} (a b : List α) : (a ++ b).drop a.length = b := by simp

theorem drop_more {α : Type} {l a b c : List α} {p : Nat} (h : l.drop p = a ++ b) (hc : b = c) : l.drop (p + a.length) = c := by
  rw [← List.drop_drop, h, drop_app, hc]

theorem flat_split {f : Tr → List Int} {l : List Tr} {i : Nat} (hi : i < l.length) : l.flatMap f = (l.take i).flatMap f ++ (f l[i] ++ (l.drop (i + 1)).flatMap f) := by
  have h : l = l.take i ++ l[i] :: l.drop (i + 1) := by simp
  exact (congrArg (List.flatMap f) h).trans (by rw [List.flatMap_append, List.flatMap_cons])

theorem flat_take {f : Tr → List Int} {l : List Tr} {i : Nat} (hi : i < l.length) : ((l.take (i + 1)).flatMap f).length = ((l.take i).flatMap f).length + (f l[i]).length := by
  rw [List.take_succ_eq_append_getElem hi, List.flatMap_append, List.length_append]
  simp

theorem fit_kinds {d : Nat} {t : Tr} (h : FitT d t) : 1 ≤ t.num ∧ t.num ≤ 536870911 ∧ (t.kind = 0 ∨ t.kind = 1 ∨ t.kind = 2 ∨ t.kind = 3 ∨ t.kind = 5) ∧ t.bytes.length ≤ 200 ∧ t.ins.length ≤ 5 := by
  cases d with
  | zero => obtain ⟨h1, h2, h3, h4, h5⟩ := h; exact ⟨h1, h2, by omega, h4, h5⟩
  | succ d => obtain ⟨h1, h2, h3, h4, h5, _⟩ := h; exact ⟨h1, h2, h3, h4, h5⟩

theorem enc_head (d : Nat) (t : Tr) : ∃ r, encT d t = sev (t.num * 8 + t.kind).toNat ++ r := by
  cases d with
  | zero => exact ⟨_, rfl⟩
  | succ d => exact ⟨_, rfl⟩

theorem enc_plain {d : Nat} {t : Tr} (h : t.kind ≠ 3) : encT d t = sev (t.num * 8 + t.kind).toNat ++ bodyT [] t := by
  cases d with
  | zero => rfl
  | succ d => simp only [encT]; unfold bodyT; simp only [if_neg h]

/-- The kinds that hold no fields. -/
theorem skip_plain {d : Nat} {p : Nat → Prop} {w0 : World} {h : Nat} {t : Tr} (hO : OkT p w0 h t) (hF : FitT d t) (h3 : t.kind ≠ 3) (w : World) (g off c n : Nat) (l rest : List Int) (hl : l.length = n) (hn : n ≤ 1000000000) (hD : Data w g off l) (he : l = encT d t ++ rest) :
    Calls Try.prog 40 #[.slice (some ⟨g, off, none⟩) n c] w (SkipIs (encT d t).length w) := by
  obtain ⟨f1, f2, f3, f4, f5⟩ := fit_kinds hF
  have ho := hO.own
  rw [enc_plain h3] at he ⊢
  have h0 : l.drop 0 = sev (t.num * 8 + t.kind).toNat ++ (bodyT [] t ++ rest) := by rw [List.drop_zero, he, List.append_assoc]
  obtain ⟨k, hk1, hk4, hN, hm, hm2⟩ := tag_at f1 f2 (by omega) (by omega) h0
  have hd : l.drop (k + 1) = bodyT [] t ++ rest := by
    have := drop_more h0 rfl
    rwa [hk1, Nat.zero_add] at this
  have hlen : (sev (t.num * 8 + t.kind).toNat ++ bodyT [] t).length = k + 1 + (bodyT [] t).length := by rw [List.length_append, hk1]
  rw [hlen]
  rcases f3 with k0 | k1 | k2 | k3 | k5
  · have hb : bodyT [] t = sev t.n.toNat := by unfold bodyT; rw [if_pos k0]
    rw [hb] at hd ⊢
    have hs := sev_pos t.n.toNat
    have := skip_0 w g off c n l hl hn hD _ k (by rw [hm, k0]; rfl) hm2 hk4 hN t.n.toNat ((sev t.n.toNat).length - 1) (numAt_of hd)
    rwa [show k + 1 + ((sev t.n.toNat).length - 1) + 1 = k + 1 + (sev t.n.toNat).length from by omega] at this
  · have hb : bodyT [] t = lo 8 t.n := by unfold bodyT; rw [if_neg (by omega), if_pos k1]
    rw [hb, lo_len]
    exact skip_1 w g off c n l hl hn hD _ k (by rw [hm, k1]; rfl) hm2 hk4 hN
  · have hb : bodyT [] t = sev t.bytes.length ++ t.bytes := by unfold bodyT; rw [if_neg (by omega), if_neg (by omega), if_pos k2]
    rw [hb] at hd ⊢
    rw [List.append_assoc] at hd
    have hs := sev_pos t.bytes.length
    have hs2 := sev_len 1 t.bytes.length (by have : (2 : Nat) ^ (7 * (1 + 1)) = 16384 := by decide
                                             omega)
    have := skip_2 w g off c n l hl hn hD _ k (by rw [hm, k2]; rfl) hm2 hk4 hN t.bytes.length ((sev t.bytes.length).length - 1) (by omega) (by omega) (numAt_of hd)
    rw [List.length_append]
    rwa [show k + 1 + ((sev t.bytes.length).length - 1) + 1 + t.bytes.length = k + 1 + ((sev t.bytes.length).length + t.bytes.length) from by omega] at this
  · exact absurd k3 h3
  · have hb : bodyT [] t = lo 4 t.n := by unfold bodyT; rw [if_neg (by omega), if_neg (by omega), if_neg (by omega), if_neg (by omega)]
    rw [hb, lo_len]
    exact skip_5 w g off c n l hl hn hD _ k (by rw [hm, k5]; rfl) hm2 hk4 hN

theorem data_drop {w : World} {g off : Nat} {l : List Int} (h : Data w g off l) (p : Nat) : Data w g (off + p) (l.drop p) :=
  ⟨bytes_drop h.1 p, fun j hj => by
    rw [List.length_drop] at hj
    rw [drop_at, Nat.add_assoc]
    exact h.2 (p + j) (by omega)⟩

theorem skip_tree : ∀ (d : Nat) {p : Nat → Prop} {w0 : World} {h : Nat} {t : Tr}, OkT p w0 h t → FitT d t → ∀ (w : World) (g off c n : Nat) (l rest : List Int), l.length = n → n ≤ 1000000000 → n ≤ c → Data w g off l → l = encT d t ++ rest →
    Calls Try.prog 40 #[.slice (some ⟨g, off, none⟩) n c] w (SkipIs (encT d t).length w) := by
  intro d
  induction d with
  | zero =>
    intro p w0 h t hO hF w g off c n l rest hl hn hnc hD he
    exact skip_plain hO hF (by obtain ⟨f1, f2, f3, f4, f5⟩ := hF; omega) w g off c n l rest hl hn hD he
  | succ d ih =>
    intro p w0 h t hO hF w g off c n l rest hl hn hnc hD he
    by_cases h3 : t.kind = 3
    · obtain ⟨f1, f2, f3, f4, f5⟩ := fit_kinds hF
      have fin := hF.2.2.2.2.2 h3
      cases h with
      | zero => exact hO.elim
      | succ h =>
        have hen : encT (d + 1) t = sev (t.num * 8 + t.kind).toNat ++ (t.ins.flatMap (encT d) ++ sev (t.num * 8 + 4).toNat) := by
          simp only [encT]; unfold bodyT; rw [if_neg (by omega), if_neg (by omega), if_neg (by omega), if_pos h3]
        rw [hen] at he ⊢
        have h0 : l.drop 0 = sev (t.num * 8 + t.kind).toNat ++ (t.ins.flatMap (encT d) ++ (sev (t.num * 8 + 4).toNat ++ rest)) := by rw [List.drop_zero, he]; simp
        obtain ⟨k, hk1, hk4, hN, hm, hm2⟩ := tag_at f1 f2 (by omega) (by omega) h0
        have hd : l.drop (k + 1) = t.ins.flatMap (encT d) ++ (sev (t.num * 8 + 4).toNat ++ rest) := by
          have := drop_more h0 rfl
          rwa [hk1, Nat.zero_add] at this
        have hend : l.drop (k + 1 + (t.ins.flatMap (encT d)).length) = sev (t.num * 8 + 4).toNat ++ rest := drop_more hd rfl
        obtain ⟨ke, hke1, hke4, hE, hme, hme2⟩ := tag_at f1 f2 (kind := 4) (by omega) (by omega) hend
        have hin : ∀ i, i < t.ins.length → ∃ m' k', Inner w g off n l (k + 1 + ((t.ins.take i).flatMap (encT d)).length) (k + 1 + ((t.ins.take (i + 1)).flatMap (encT d)).length) m' k' ∧ m' % 8 ≠ 4 := by
          intro i hi
          have hx := List.getElem_mem hi
          have hOx := hO.2 _ hx
          have hFx := fin _ hx
          obtain ⟨g1, g2, g3, g4, g5⟩ := fit_kinds hFx
          have hdi : l.drop (k + 1 + ((t.ins.take i).flatMap (encT d)).length) = encT d t.ins[i] ++ ((t.ins.drop (i + 1)).flatMap (encT d) ++ (sev (t.num * 8 + 4).toNat ++ rest)) := by
            have hsp := flat_split (f := encT d) hi
            rw [hsp, List.append_assoc] at hd
            have := drop_more hd rfl
            rw [this, List.append_assoc]
          obtain ⟨r, hr⟩ := enc_head d t.ins[i]
          obtain ⟨k', hk', hk'4, hN', hm', hm2'⟩ := tag_at (num := t.ins[i].num) (kind := t.ins[i].kind) g1 g2 (by omega) (by omega) (l := l) (p := k + 1 + ((t.ins.take i).flatMap (encT d)).length) (r := r ++ ((t.ins.drop (i + 1)).flatMap (encT d) ++ (sev (t.num * 8 + 4).toNat ++ rest))) (by rw [hdi, hr, List.append_assoc])
          have hlt := flat_take (f := encT d) hi
          have hpos : 0 < (encT d t.ins[i]).length := by rw [hr, List.length_append]; omega
          have hlen : (l.drop (k + 1 + ((t.ins.take i).flatMap (encT d)).length)).length = (encT d t.ins[i]).length + ((t.ins.drop (i + 1)).flatMap (encT d) ++ (sev (t.num * 8 + 4).toNat ++ rest)).length := by rw [hdi, List.length_append]
          rw [List.length_drop] at hlen
          refine ⟨_, k', { num := hN', sm := hm2', k4 := hk'4, lt := by omega, le := by omega, call := fun c' hc' => ?_ }, by omega⟩
          have := ih hOx hFx w g (off + (k + 1 + ((t.ins.take i).flatMap (encT d)).length)) c' (n - (k + 1 + ((t.ins.take i).flatMap (encT d)).length)) (l.drop (k + 1 + ((t.ins.take i).flatMap (encT d)).length)) _ (by rw [List.length_drop, hl]) (by omega) hc' (data_drop hD _) hdi
          rwa [show (k + 1 + ((t.ins.take (i + 1)).flatMap (encT d)).length) - (k + 1 + ((t.ins.take i).flatMap (encT d)).length) = (encT d t.ins[i]).length from by omega]
        have := skip_3 w g off c n l hl hn hnc hD _ k (by rw [hm, h3]; rfl) hm2 hk4 hN t.ins.length (fun i => k + 1 + ((t.ins.take i).flatMap (encT d)).length) (by simp) hin _ ke (by simpa using hE) (by rw [hme]; rfl) hme2 hke4
        have hfin : k + 1 + ((t.ins.take t.ins.length).flatMap (encT d)).length + ke + 1 = (sev (t.num * 8 + t.kind).toNat ++ (t.ins.flatMap (encT d) ++ sev (t.num * 8 + 4).toNat)).length := by
          rw [List.length_append, List.length_append, hk1, hke1, List.take_length]; omega
        rwa [hfin] at this
    · exact skip_plain hO hF h3 w g off c n l rest hl hn hD he

end Go.Proofs.Ytobponaenabpgaa.Rd
