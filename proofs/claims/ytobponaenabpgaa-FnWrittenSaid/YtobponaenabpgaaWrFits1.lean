/- Whether all values' bytes fit. -/
import Derived.Test.YtobponaenabpgaaWrRow
namespace Go.Proofs.Ytobponaenabpgaa.Rd
open Go.ChangeShapes Go.WideShapes Go.ChangeAt Go.RowKit Sv Go.Proofs.YtobponaenabpgaaW Go.Proofs.YtobponaenabpgaaW.PrintWords
set_option linter.unusedVariables false

theorem rowR_get : ∀ (q : List Raw) (j : Nat) (hj : j < q.length) (i : Nat), i < 3 → (q.flatMap rowR)[j * 3 + i]? = (rowR (q[j]))[i]?
  | x :: r, 0, hj, i, hi => by rw [List.flatMap_cons, List.getElem?_append_left (by simp [rowR]; omega)]; simp
  | x :: r, j + 1, hj, i, hi => by
    rw [List.flatMap_cons, List.getElem?_append_right (by simp [rowR]; omega)]
    have := rowR_get r j (by simpa using hj) i hi
    simp only [List.getElem_cons_succ]
    rw [← this]
    congr 1
    simp [rowR]
    omega

/-- One value of a row that came in, at its plain place. -/
theorem InRow.at {w : World} {a : Option Addr} {q : List Raw} (h : InRow w a q) {j : Nat} (hj : j < q.length) :
    ∃ g off, a = some ⟨g, off, none⟩ ∧ w.cell? ⟨g, off + j * 3, none⟩ = some (.int .i64 (q[j]).kind) ∧ w.cell? ⟨g, off + j * 3 + 1, none⟩ = some (.int .u64 (q[j]).n) ∧ w.cell? ⟨g, off + j * 3 + 2, none⟩ = some (.slice (q[j]).a (q[j]).bytes.length (q[j]).c) := by
  obtain ⟨ad, rfl, hc⟩ := h.2.2 (by omega)
  obtain ⟨g, off, spot⟩ := ad
  have hx := hc 0 _ (by rw [show 0 = 0 * 3 + 0 from rfl, rowR_get q 0 (by omega) 0 (by omega)]; rfl)
  have hspot : spot = none := by simpa [Addr.add] using World.cell?_spot hx
  subst hspot
  refine ⟨g, off, rfl, ?_, ?_, ?_⟩
  · have := hc (j * 3 + 0) _ (by rw [rowR_get q j hj 0 (by omega)]; rfl)
    rwa [Go.WideShapes.add_plain] at this
  · have := hc (j * 3 + 1) _ (by rw [rowR_get q j hj 1 (by omega)]; rfl)
    rwa [Go.WideShapes.add_plain] at this
  · have := hc (j * 3 + 2) _ (by rw [rowR_get q j hj 2 (by omega)]; rfl)
    rwa [Go.WideShapes.add_plain] at this

def Fits1 (w : World) (e : Ending) (w' : World) : Prop := ∃ b : Bool, e = .returned (.bool b) ∧ Below w.heap.size w w'

set_option maxHeartbeats 1000000 in
set_option maxRecDepth 100000 in
theorem fits1 (w : World) (a : Option Addr) (cap : Nat) (q : List Raw) (h : InRow w a q) :
    Calls Try.prog 28 #[.slice a q.length cap] w (Fits1 w) := by
  have HR := Lib.hid h
  have hq := h.1
  clear h
  by_cases hs : (q.length : Int) ≤ 2147483647
  · go_enter Try.func28, Try.ntmps28
    go_wp2
    go_loopw [10] (fun n wr => ∃ j : Nat, j ≤ q.length ∧ n = .int .i64 j ∧ Hid (Below w.heap.size w wr)) (fun n _ => q.length - (intOf n).toNat)
    case atStart => exact ⟨0, Nat.zero_le _, rfl, Below.refl _ _⟩
    case round =>
      obtain ⟨j, hj, rfl, HB⟩ := hrel
      by_cases hlt : j < q.length
      · obtain ⟨g, off, rfl, e0, e1, e2⟩ := (HR.out.below HB.out).at hlt
        have hbw := HB.out.size
        have hA : Below w.heap.size w (wr.alloc (.cells #[.int .i64 (q[j]).kind, .int .u64 (q[j]).n, .slice (q[j]).a (q[j]).bytes.length (q[j]).c] 62)) := HB.out.alloc hbw _
        have HA := Lib.hid hA
        clear hA hbw
        go_wp2_with fail
        refine (fits2 _ _ _ _ _ _).mono ?_
        rintro e w1 ⟨rfl, hb⟩
        have HW := Lib.hid (HA.out.trans (hb.mono HA.out.size))
        clear hb e0 e1 e2
        by_cases hm : ((q[j]).bytes.length : Int) ≤ 2147483647
        · have hd : decide (((q[j]).bytes.length : Int) ≤ 2147483647) = true := decide_eq_true hm
          go_wp2_with fail
          go_roundw
          case rel => exact ⟨j + 1, by omega, by go_num, HW.out⟩
          case measure => simp [intOf]; omega
        · have hd : decide (((q[j]).bytes.length : Int) ≤ 2147483647) = false := decide_eq_false hm
          go_wp2_with fail
          go_returns
          exact ⟨_, rfl, HW.out⟩
      · obtain rfl : j = q.length := by omega
        go_wp2
        go_returns
        exact ⟨_, rfl, HB.out⟩
  · go_enter Try.func28, Try.ntmps28
    go_wp2
    go_returns
    exact ⟨_, rfl, Below.refl _ _⟩

end Go.Proofs.Ytobponaenabpgaa.Rd
