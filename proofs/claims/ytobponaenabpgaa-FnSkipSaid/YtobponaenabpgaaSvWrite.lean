/- Contracts of the writing of numbers by sevens. -/
import Derived.Test.YtobponaenabpgaaSvWalks
import Derived.OwnWalk
import Derived.Deep.LoopGhost
namespace Go.Proofs.Ytobponaenabpgaa.Sv
open Go.ChangeShapes Go.WideShapes Go.ChangeAt Go.RowKit Go.Proofs.YtobponaenabpgaaW.PrintWords
set_option linter.unusedVariables false

theorem info5 : (Try.prog.info? 5).map (fun i => (i.zero, i.size, i.bytes)) = some (some (.int .u8 0), 1, 1) := by kernel_rfl

/-- A row of bytes of the call's own. -/
def Row8 (base : Nat) (w : World) (v : Value) (l : List Int) : Prop := w.ownsRow base 5 1 v l.length (nums .u8 l)

def SevPost (n : Nat) (w : World) (e : Ending) (w' : World) : Prop := ∃ v, e = .returned v ∧ Row8 w.heap.size w' v (sev n) ∧ Below w.heap.size w w'

theorem sev_step {m n : Nat} {xs : List Int} (h : 127 < m) (he : xs ++ sev m = sev n) : (xs ++ [(m : Int) % 128 + 128]) ++ sev (m / 128) = sev n := by
  rw [← he, sev_hi (n := m) (by omega)]
  simp
theorem sev_len_step {m : Nat} (h : 127 < m) : (sev m).length = (sev (m / 128)).length + 1 := by rw [sev_hi (n := m) (by omega)]; simp

set_option maxRecDepth 100000 in
theorem sevens_any (n : Nat) (hn : (n : Int) ≤ 18446744073709551615) (w : World) : Calls Try.prog 10 #[.int .u64 n] w (SevPost n w) := by
  have hl10 := sev_len10 (n := n) (by omega)
  go_enter Try.func10, Try.ntmps10
  go_wp2
  go_loopw [0, 3] (fun x v wr => ∃ (m : Nat) (xs : List Int), x = .int .u64 m ∧ (m : Int) ≤ 18446744073709551615 ∧ xs.length + (sev m).length ≤ 10 ∧ Hid (xs ++ sev m = sev n) ∧ Hid (Row8 w.heap.size wr v xs) ∧ Hid (Below w.heap.size w wr)) (fun x _ _ => (intOf x).toNat)
  case atStart => exact ⟨n, [], rfl, hn, by simpa using hl10, rfl, own_nil _ _ _ _, Below.refl _ _⟩
  case round =>
    obtain ⟨m, xs, rfl, hm, hlen, HE, HR, HB⟩ := hrel
    by_cases hlt : 127 < m
    · go_wp2_with (at_builtin; refine print_append_num (w0 := w) w.heap.size rfl (.tmp 6) (.tmp 11) 23 5 .u8 1 rfl Try.underlying23 info5 (by decide) u3 xs ((m : Int) % 128 + 128) rfl rfl HR.out HB.out HB.out.size (by omega) ?_; intro v1 w1 HO1 HB1 _ _; have HO := Lib.hid HO1; have HBB := Lib.hid HB1; clear HO1 HB1)
      go_roundw
      case rel =>
        have := sev_len_step hlt
        exact ⟨m / 128, xs ++ [(m : Int) % 128 + 128], by go_num, by omega, by rw [List.length_append]; simp; omega, sev_step hlt HE.out, HO.out, HBB.out⟩
      case measure => simp [intOf]; omega
    · have hsm : sev m = [(m : Int)] := sev_lo (by omega)
      have HS := Lib.hid hsm
      clear hsm
      go_wp2_with (at_builtin; refine print_append_num (w0 := w) w.heap.size rfl (.tmp 15) (.tmp 18) 23 5 .u8 1 rfl Try.underlying23 info5 (by decide) u3 xs ↑m rfl rfl HR.out HB.out HB.out.size (by omega) ?_; intro v1 w1 HO1 HB1 _ _; have HO := Lib.hid HO1; have HBB := Lib.hid HB1; clear HO1 HB1)
      go_ret
      refine ⟨_, rfl, ?_, HBB.out⟩
      unfold Row8
      rw [← HE.out, HS.out]
      exact HO.out

end Go.Proofs.Ytobponaenabpgaa.Sv
