/- The contract of the thin package's Sevens, and what reading and decoding say of the same bytes. -/
import Derived.Test.YtobponaenabpgaaSvEnc
namespace Go.Proofs.Ytobponaenabpgaa.Sv
open Go.ChangeShapes Go.WideShapes Go.ChangeAt Go.RowKit Go.Proofs.YtobponaenabpgaaW Go.Proofs.YtobponaenabpgaaW.PrintWords
set_option linter.unusedVariables false

def DecPost (z k : Int) (w : World) (e : Ending) (w' : World) : Prop := ∃ y m, (k < 0 ∨ (y = z ∧ m = k)) ∧ e = .returned (.tuple #[.int .u64 y, .int .i64 m]) ∧ w = w'

theorem both (l : List Int) : ∃ z k : Int, (∀ W a cap, Holds8 W a l → Calls Try.prog 33 #[.slice a l.length cap] W (DecPost z k W)) ∧
    (∀ W a cap, Holds8 W a l → Calls Try.prog 11 #[.slice a l.length cap] W fun e w' => e = .returned (.tuple #[.int .u64 z, .int .i64 k]) ∧ W = w') := by
  rcases classes l with ⟨k, hg⟩ | hs | ho
  · refine ⟨_, _, fun W a cap h => (dec_good a cap l W h k hg).mono ?_, fun W a cap h => read_good a cap l W h k hg⟩
    rintro e w1 ⟨rfl, rfl⟩
    exact ⟨_, _, .inr ⟨rfl, rfl⟩, rfl, rfl⟩
  · refine ⟨_, _, fun W a cap h => (dec_short a cap l W h hs).mono ?_, fun W a cap h => read_short a cap l W h hs⟩
    rintro e w1 ⟨rfl, rfl⟩
    exact ⟨_, _, .inr ⟨rfl, rfl⟩, rfl, rfl⟩
  · refine ⟨_, _, fun W a cap h => (dec_over a cap l W h ho).mono ?_, fun W a cap h => read_over a cap l W h ho⟩
    rintro e w1 ⟨y, m, rfl, rfl⟩
    exact ⟨_, _, .inl (by decide), rfl, rfl⟩

theorem Holds8.below {w w1 : World} {a : Option Addr} {l : List Int} (h : Holds8 w a l) (hb : Below w.heap.size w w1) : Holds8 w1 a l :=
  ⟨h.1, h.2.1, fun hn => by
    obtain ⟨ad, e, hc⟩ := h.2.2 hn
    exact ⟨ad, e, fun j hj => pw_cell_below hb (hc j hj)⟩⟩

def SevensPost (n : Nat) (z k : Int) (w : World) (e : Ending) (w' : World) : Prop :=
  ∃ v y m, (k < 0 ∨ (y = z ∧ m = k)) ∧ e = .returned (.tuple #[v, .int .i64 ((sev n).length : Int), .int .u64 y, .int .i64 m]) ∧ w'.ownsRow w.heap.size 105 1 v (sev n).length (nums .u8 (sev n)) ∧ Below w.heap.size w w'

theorem impl_any (n : Nat) (hn : (n : Int) ≤ 18446744073709551615) (a : Option Addr) (cap : Nat) (l : List Int) (w : World) (h : Holds8 w a l) (z k : Int)
    (Hd : ∀ W a cap, Holds8 W a l → Calls Try.prog 33 #[.slice a l.length cap] W (DecPost z k W)) :
    Calls Try.prog 9 #[.int .u64 n, .slice a l.length cap] w (SevensPost n z k w) := by
  have H1 := Lib.hid (Hd w a cap h)
  have He := Lib.hid (enc_any n hn)
  have Hz := Lib.hid (size_any n hn)
  clear Hd h
  go_enter Try.func9, Try.ntmps9
  go_wp2_with fail
  refine H1.out.mono ?_
  rintro e w1 ⟨y, m, hk, rfl, rfl⟩
  have HK := Lib.hid hk
  clear hk
  go_wp2_with fail
  refine (He.out _).mono ?_
  rintro e w1 ⟨v, rfl, ho, hb⟩
  have HO := Lib.hid ho
  have HB := Lib.hid hb
  clear ho hb
  go_wp2_with fail
  refine (Hz.out _).mono ?_
  rintro e w2 ⟨rfl, rfl⟩
  go_wp2
  refine bodyPost_ret (v := .tuple #[v, .int .i64 ((sev n).length : Int), .int .u64 y, .int .i64 m]) ?_ rfl ?_
  · simp [results, Try.results9, go_sem]
  · exact ⟨v, y, m, HK.out, rfl, HO.out, HB.out⟩

end Go.Proofs.Ytobponaenabpgaa.Sv
