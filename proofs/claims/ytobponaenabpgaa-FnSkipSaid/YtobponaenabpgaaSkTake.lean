/- Laws for a region that draws its order: loads are taken first up to one operation T that waits for them all; behind T nothing need be kept. No program in sight. -/
import Derived.OrdersHeld
import Derived.StillTail
import Derived.Deep.RegionWith
namespace Go.Proofs.Ytobponaenabpgaa.Rd
open Go
set_option linter.unusedVariables false

section
variable {P : Program} {ops : Array Oper} {Q : Exit → Act → World → Prop} {md : Region.Mode} {S : World → Prop} {T : Nat}

/-- Whatever order is picked from here on, and S holds behind every operation that comes up ahead of number T. -/
def Till (P : Program) (md : Region.Mode) (ops : Array Oper) (Q : Exit → Act → World → Prop) (S : World → Prop) (T : Nat) : Nat → Array Bool → Act → World → Prop
  | 0, listed, a, w => Region.ready md ops listed = [] ∧ Q .normal a w
  | n + 1, listed, a, w =>
    (Region.ready md ops listed = [] → Q .normal a w) ∧
    ∀ i ∈ Region.ready md ops listed, wpOp P ops Q i (fun a' w' => ((listed.setIfInBounds i true).getD T true = false → S w') ∧ Till P md ops Q S T n (listed.setIfInBounds i true) a' w') a w

theorem till_any : ∀ (n : Nat) (listed : Array Bool) (a : Act) (w : World), Till P md ops Q S T n listed a w → wpAny P md ops Q n listed a w
  | 0, _, _, _, h => h
  | n + 1, _, _, _, h => ⟨h.1, fun i hi => wpOp_mono (fun a' w' h' => till_any n _ a' w' h'.2) (h.2 i hi)⟩

theorem getD_on {listed : Array Bool} {i T : Nat} (h : listed.getD T true = true) : (listed.setIfInBounds i true).getD T true = true := by
  rcases Nat.lt_or_ge T listed.size with h' | h'
  · simp only [Array.getD_eq_getD_getElem?, Array.getElem?_setIfInBounds]
    split
    · split <;> rfl
    · simpa [Array.getD_eq_getD_getElem?] using h
  · simp [Array.getD_eq_getD_getElem?, h']

/-- Behind T: any order. -/
theorem till_of_any : ∀ (n : Nat) (listed : Array Bool) (a : Act) (w : World), listed.getD T true = true → wpAny P md ops Q n listed a w → Till P md ops Q S T n listed a w
  | 0, _, _, _, _, h => h
  | n + 1, _, _, _, hT, h => ⟨h.1, fun i hi => wpOp_mono (fun a' w' h' => ⟨fun hf => absurd ((getD_on hT).symm.trans hf) (by decide), till_of_any n _ a' w' (getD_on hT) h'⟩) (h.2 i hi)⟩

theorem till_last {n : Nat} {listed : Array Bool} {a : Act} {w : World} (hr : Region.ready md ops listed = [T]) (hT : (listed.setIfInBounds T true).getD T true = true) (h : wpAny P md ops Q n listed a w) : Till P md ops Q S T n listed a w := by
  cases n with
  | zero => exact h
  | succ n =>
    refine ⟨h.1, fun i hi => wpOp_mono (fun a' w' h' => ?_) (h.2 i hi)⟩
    rw [hr] at hi
    obtain rfl : i = T := by simpa using hi
    exact ⟨fun hf => absurd (hT.symm.trans hf) (by decide), till_of_any n _ a' w' hT h'⟩

theorem till_step {n i : Nat} {o : Oper} {listed : Array Bool} {a : Act} {w : World} (hr : Region.ready md ops listed = [i]) (ho : ops[i]? = some o)
    (h : ∀ K' : Act → World → Prop, (∀ a w, (S w ∧ Till P md ops Q S T n (listed.setIfInBounds i true) a w) → K' a w) → if Region.wanted o (yielded ops a.tmps) = true then Oper.wp P o a w K' Q else K' (a.put o.dst undef) w) : Till P md ops Q S T (n + 1) listed a w := by
  refine ⟨fun h0 => (by rw [hr] at h0; cases h0), fun j hj => ?_⟩
  rw [hr] at hj
  obtain rfl : j = i := by simpa using hj
  exact wpOp_step ho fun K' hK => h K' fun a w hw => hK a w ⟨fun _ => hw.1, hw.2⟩

/-- An operation for which T waits may be taken first, if it yields its value in every world that meets S. -/
theorem till_first {i : Nat} {oi : Oper} {v : Value} (hi : ops[i]? = some oi) (hsel : ∀ (j : Nat) (o : Oper) cs b, ops[j]? = some o → o.op ≠ .select cs b)
    (hQ : ∀ c a w, Q (.panic c) (a.put oi.dst v) w → Q (.panic c) a w) (hiT : i ≠ T) (hT : Region.waitsFor md ops T i = true) :
    ∀ (n : Nat) (listed : Array Bool) (a : Act) (w : World),
      (∀ j oj, ops[j]? = some oj → j ≠ i → listed.getD j true = false → (∀ e ∈ oj.after, Region.binds md e = true → e.on ≠ i) → oi.apart ops oj = true) →
      i ∈ Region.ready md ops listed → YieldsIf P ops S oi v a → S w → listed.getD T true = false →
      Till P md ops Q S T n (listed.setIfInBounds i true) (a.put oi.dst v) w → Till P md ops Q S T (n + 1) listed a w := by
  intro n
  induction n with
  | zero =>
    intro listed a w _ hr hy hS hL H
    refine ⟨fun h => (by rw [h] at hr; cases hr), fun j hj => ?_⟩
    by_cases hji : j = i
    · subst hji; exact hy.wpOp hi hS ⟨fun _ => hS, H⟩
    · have := ready_mono hj hji
      rw [H.1] at this
      cases this
  | succ n ih =>
    intro listed a w hfree hr hy hS hL H
    refine ⟨fun h => (by rw [h] at hr; cases hr), fun j hj => ?_⟩
    by_cases hji : j = i
    · subst hji; exact hy.wpOp hi hS ⟨fun _ => hS, H⟩
    · have h1 := H.2 j (ready_mono hj hji)
      obtain ⟨hjun, oj, hoj, hall⟩ := mem_ready.1 hj
      have h0 := (mem_ready.1 hr).1
      have hnot : ∀ e ∈ oj.after, Region.binds md e = true → e.on ≠ i := fun e he hb heq => by
        have h2 := hall e he hb
        rw [heq, getD_both h0] at h2
        cases h2
      have hjT : j ≠ T := fun hjT => by
        obtain ⟨oT, hoT, e, he, hb, hon⟩ := Region.waitsFor_spec hT
        rw [← hjT] at hoT
        have : oT = oj := Option.some.inj (hoT.symm.trans hoj)
        subst this
        exact hnot e he hb hon
      have hLj : (listed.setIfInBounds j true).getD T true = false := by rw [getD_set_ne true hjT]; exact hL
      have hLij : ((listed.setIfInBounds i true).setIfInBounds j true).getD T true = false := by rw [getD_set_ne true hjT, getD_set_ne true hiT]; exact hL
      have h2 := wpOp_putIf hoj (hfree j oj hoj hji hjun hnot) (fun cs b => hsel i oi cs b hi) (fun cs b => hsel j oj cs b hoj) hQ hy h1
      have hfree' : ∀ k ok, ops[k]? = some ok → k ≠ i → (listed.setIfInBounds j true).getD k true = false →
          (∀ e ∈ ok.after, Region.binds md e = true → e.on ≠ i) → oi.apart ops ok = true := fun k ok hk hki hun hno => by
        refine hfree k ok hk hki ?_ hno
        by_cases hjk : j = k
        · subst hjk; exact hjun
        · rw [getD_set_ne true hjk] at hun; exact hun
      refine wpOp_mono (fun a' w' h3 => ⟨fun _ => h3.2.1 hLij, ih (listed.setIfInBounds j true) a' w' hfree' (ready_mono hr (Ne.symm hji)) h3.1 (h3.2.1 hLij) hLj ?_⟩) h2
      rw [Array.setIfInBounds_comm _ _ hji]
      exact h3.2.2

/-- An operation that yields its value in whatever world may be taken first. -/
theorem till_free {i : Nat} {oi : Oper} {v : Value} (hi : ops[i]? = some oi) (hsel : ∀ (j : Nat) (o : Oper) cs b, ops[j]? = some o → o.op ≠ .select cs b)
    (hQ : ∀ c a w, Q (.panic c) (a.put oi.dst v) w → Q (.panic c) a w) (hiT : i ≠ T) :
    ∀ (n : Nat) (listed : Array Bool) (a : Act) (w : World),
      (∀ j oj, ops[j]? = some oj → j ≠ i → listed.getD j true = false → (∀ e ∈ oj.after, Region.binds md e = true → e.on ≠ i) → oi.apart ops oj = true) →
      i ∈ Region.ready md ops listed → YieldsIf P ops (fun _ => True) oi v a → (listed.getD T true = false → S w) →
      Till P md ops Q S T n (listed.setIfInBounds i true) (a.put oi.dst v) w → Till P md ops Q S T (n + 1) listed a w := by
  intro n
  induction n with
  | zero =>
    intro listed a w _ hr hy hS H
    refine ⟨fun h => (by rw [h] at hr; cases hr), fun j hj => ?_⟩
    by_cases hji : j = i
    · subst hji; exact hy.wpOp hi trivial ⟨fun hl => hS (by rwa [getD_set_ne true hiT] at hl), H⟩
    · have := ready_mono hj hji
      rw [H.1] at this
      cases this
  | succ n ih =>
    intro listed a w hfree hr hy hS H
    refine ⟨fun h => (by rw [h] at hr; cases hr), fun j hj => ?_⟩
    by_cases hji : j = i
    · subst hji; exact hy.wpOp hi trivial ⟨fun hl => hS (by rwa [getD_set_ne true hiT] at hl), H⟩
    · have h1 := H.2 j (ready_mono hj hji)
      obtain ⟨hjun, oj, hoj, hall⟩ := mem_ready.1 hj
      have h0 := (mem_ready.1 hr).1
      have hnot : ∀ e ∈ oj.after, Region.binds md e = true → e.on ≠ i := fun e he hb heq => by
        have h2 := hall e he hb
        rw [heq, getD_both h0] at h2
        cases h2
      have h2 := wpOp_putIf hoj (hfree j oj hoj hji hjun hnot) (fun cs b => hsel i oi cs b hi) (fun cs b => hsel j oj cs b hoj) hQ hy h1
      have hfree' : ∀ k ok, ops[k]? = some ok → k ≠ i → (listed.setIfInBounds j true).getD k true = false →
          (∀ e ∈ ok.after, Region.binds md e = true → e.on ≠ i) → oi.apart ops ok = true := fun k ok hk hki hun hno => by
        refine hfree k ok hk hki ?_ hno
        by_cases hjk : j = k
        · subst hjk; exact hjun
        · rw [getD_set_ne true hjk] at hun; exact hun
      have hsw : (listed.setIfInBounds j true).getD T true = ((listed.setIfInBounds i true).setIfInBounds j true).getD T true := by
        rw [Array.setIfInBounds_comm _ _ (Ne.symm hji), getD_set_ne true hiT]
      refine wpOp_mono (fun a' w' h3 => ⟨fun hl => h3.2.1 (by rw [← hsw]; exact hl), ih (listed.setIfInBounds j true) a' w' hfree' (ready_mono hr (Ne.symm hji)) h3.1 (fun hl => h3.2.1 (by rw [← hsw]; exact hl)) ?_⟩) h2
      rw [Array.setIfInBounds_comm _ _ hji]
      exact h3.2.2

theorem till_take {i : Nat} {oi : Oper} {v : Value} {n : Nat} {listed : Array Bool} {a : Act} {w : World} (hi : ops[i]? = some oi)
    (hs : Region.noSelect ops = true) (hf : Region.free md ops listed i = true) (hr : (Region.ready md ops listed).contains i = true)
    (hT : (decide (i ≠ T) && Region.waitsFor md ops T i && !listed.getD T true) = true)
    (hQ : ∀ c a w, Q (.panic c) (a.put oi.dst v) w → Q (.panic c) a w) (hS : S w) (hy : YieldsIf P ops S oi v a)
    (h : Till P md ops Q S T n (listed.setIfInBounds i true) (a.put oi.dst v) w) : Till P md ops Q S T (n + 1) listed a w := by
  simp only [Bool.and_eq_true, decide_eq_true_eq, Bool.not_eq_true'] at hT
  exact till_first hi (Region.noSelect_spec hs) hQ hT.1.1 hT.1.2 n listed a w (Region.free_spec hi hf) (by simpa using hr) hy hS hT.2 h

theorem till_take_free {i : Nat} {oi : Oper} {v : Value} {n : Nat} {listed : Array Bool} {a : Act} {w : World} (hi : ops[i]? = some oi)
    (hs : Region.noSelect ops = true) (hf : Region.free md ops listed i = true) (hr : (Region.ready md ops listed).contains i = true)
    (hT : decide (i ≠ T) = true)
    (hQ : ∀ c a w, Q (.panic c) (a.put oi.dst v) w → Q (.panic c) a w) (hS : S w) (hy : YieldsIf P ops (fun _ => True) oi v a)
    (h : Till P md ops Q S T n (listed.setIfInBounds i true) (a.put oi.dst v) w) : Till P md ops Q S T (n + 1) listed a w :=
  till_free hi (Region.noSelect_spec hs) hQ (of_decide_eq_true hT) n listed a w (Region.free_spec hi hf) (by simpa using hr) hy (fun _ => hS) h

/-- The operations that are left come up in one forced order. -/
def forced (md : Region.Mode) (ops : Array Oper) : List Nat → Array Bool → Bool
  | [], listed => (Region.ready md ops listed).isEmpty
  | k :: l, listed => decide (Region.ready md ops listed = [k]) && forced md ops l (listed.setIfInBounds k true)

theorem any_forced (l : List Nat) : ∀ (os : List Oper) (listed : Array Bool) (a : Act) (w : World), l.map (fun k => ops[k]?) = os.map some →
    forced md ops l listed = true → wpList P ops Q os a w → wpAny P md ops Q l.length listed a w := by
  induction l with
  | nil =>
    intro os listed a w hm hB h
    obtain rfl : os = [] := by simpa using hm.symm
    exact ⟨by simpa [forced] using hB, h⟩
  | cons k l ih =>
    intro os listed a w hm hB h
    cases os with
    | nil => simp at hm
    | cons o os =>
      obtain ⟨hm1, hm2⟩ := List.cons.inj hm
      unfold forced at hB
      rw [Bool.and_eq_true, decide_eq_true_eq] at hB
      obtain ⟨hB1, hB2⟩ := hB
      have hw : wpOp P ops Q k (wpList P ops Q os) a w := by unfold wpOp; simp only [hm1]; exact h
      refine ⟨fun h1 => (by rw [hB1] at h1; cases h1), fun i hi => ?_⟩
      rw [hB1] at hi
      obtain rfl : i = k := by simpa using hi
      exact wpOp_mono (fun a' w' h' => ih os _ a' w' hm2 hB2 h') hw

theorem any_two {i j : Nat} {oi oj : Oper} {listed : Array Bool} {a : Act} {w : World} (hi : ops[i]? = some oi) (hj : ops[j]? = some oj) (hB : forced md ops [i, j] listed = true) (h : wpList P ops Q [oi, oj] a w) : wpAny P md ops Q 2 listed a w :=
  any_forced [i, j] [oi, oj] listed a w (by simp [hi, hj]) hB h

theorem any_three {i j k : Nat} {oi oj ok : Oper} {listed : Array Bool} {a : Act} {w : World} (hi : ops[i]? = some oi) (hj : ops[j]? = some oj) (hk : ops[k]? = some ok) (hB : forced md ops [i, j, k] listed = true) (h : wpList P ops Q [oi, oj, ok] a w) : wpAny P md ops Q 3 listed a w :=
  any_forced [i, j, k] [oi, oj, ok] listed a w (by simp [hi, hj, hk]) hB h

theorem any_drop {k n : Nat} {listed : Array Bool} {a : Act} {w : World} (hB : Region.seqB md ops (ops.toList.drop k).length k listed = true) (hn : n = (ops.toList.drop k).length) (h : wpList P ops Q (ops.toList.drop k) a w) : wpAny P md ops Q n listed a w :=
  hn ▸ wpAny_of_seq _ k _ _ _ (fun j => by simp) hB h

theorem region_till {id : Nat} {a : Act} {w : World} (T : Nat) (S : World → Prop) (hm : P.follows .mixedOrders = true)
    (h : Till P .any ops Q S T ops.size (Array.replicate ops.size false) a w.drew) : (Code.region id ops true).wp P Q a w :=
  wp_region_any hm (till_any _ _ _ _ h)

end
end Go.Proofs.Ytobponaenabpgaa.Rd
