/- The buffer's reading of numbers of 32 and 64 bits. -/
import Derived.Test.YtobponaenabpgaaRdVar3
namespace Go.Proofs.Ytobponaenabpgaa.Rd
open Go.ChangeShapes Go.WideShapes Go.ChangeAt Go.RowKit Sv Go.Proofs.YtobponaenabpgaaW Go.Proofs.YtobponaenabpgaaW.PrintWords
set_option linter.unusedVariables false

/-- The bits of a byte put above a smaller number. -/
theorem or_up (s : Nat) (P a m : Int) (hP : P = 2 ^ s) (hs : s ≤ 56) (a0 : 0 ≤ a) (a1 : a < P) (m0 : 0 ≤ m) (m1 : m < 256) : bits .or .u64 a (m * P) = a + m * P := by
  obtain ⟨a, rfl⟩ := Int.eq_ofNat_of_zero_le a0
  obtain ⟨m, rfl⟩ := Int.eq_ofNat_of_zero_le m0
  subst hP
  have e : (m : Int) * 2 ^ s = ((m * 2 ^ s : Nat) : Int) := by push_cast; rfl
  have ha : a < 2 ^ s := by exact_mod_cast a1
  have hp : 2 ^ s ≤ 2 ^ 56 := Nat.pow_le_pow_right (by omega) hs
  have hb : m * 2 ^ s ≤ 255 * 2 ^ 56 := Nat.mul_le_mul (by omega) hp
  have e56 : (2 : Nat) ^ 56 = 72057594037927936 := by decide
  rw [e, u64_or_nat _ _ (by omega) (by omega)]
  have := Nat.shiftLeft_add_eq_or_of_lt ha m
  rw [Nat.shiftLeft_eq] at this
  rw [Nat.or_comm, ← this]
  push_cast
  omega

/-- What bytes say, the lowest one first. -/
def W : List Int → Int
  | [] => 0
  | c :: r => c + 256 * W r

theorem or4 (x0 x1 x2 x3 : Int) (h0 : 0 ≤ x0) (h0' : x0 < 256) (h1 : 0 ≤ x1) (h1' : x1 < 256) (h2 : 0 ≤ x2) (h2' : x2 < 256) (h3 : 0 ≤ x3) (h3' : x3 < 256) : bits .or .u64 (bits .or .u64 (bits .or .u64 x0 (x1 * 256)) (x2 * 65536)) (x3 * 16777216) = x0 + x1 * 256 + x2 * 65536 + x3 * 16777216 := by
  rw [or_up 8 256 _ x1 (by decide) (by decide) (by omega) (by omega) h1 h1', or_up 16 65536 _ x2 (by decide) (by decide) (by omega) (by omega) h2 h2', or_up 24 16777216 _ x3 (by decide) (by decide) (by omega) (by omega) h3 h3']

set_option maxRecDepth 100000 in
theorem fix4_some (w : World) (B g : Nat) (cap n i : Nat) (hn : n ≤ 100000) (hi : i + 4 ≤ n) (hcap : n ≤ cap) (c0 : w.cell? ⟨B, 0, none⟩ = some (.slice (some ⟨g, 0, none⟩) n cap)) (c1 : w.cell? ⟨B, 1, none⟩ = some (.int .i64 i)) (f1 : w.frozen? ⟨B, 1, none⟩ = false)
    (hne : ¬ g = B) (x0 x1 x2 x3 : Int) (h0 : 0 ≤ x0) (h0' : x0 < 256) (h1 : 0 ≤ x1) (h1' : x1 < 256) (h2 : 0 ≤ x2) (h2' : x2 < 256) (h3 : 0 ≤ x3) (h3' : x3 < 256) (e0 : w.cell? ⟨g, i, none⟩ = some (.int .u8 x0)) (e1 : w.cell? ⟨g, i + 1, none⟩ = some (.int .u8 x1)) (e2 : w.cell? ⟨g, i + 2, none⟩ = some (.int .u8 x2)) (e3 : w.cell? ⟨g, i + 3, none⟩ = some (.int .u8 x3)) :
    Calls Try.prog 48 #[.pointer (some ⟨B, 0, none⟩)] w fun e w' => e = .returned (.tuple #[.int .u64 (x0 + x1 * 256 + x2 * 65536 + x3 * 16777216), .nilIface]) ∧ moved w B (i + 4) = w' := by
  have HE := Lib.hid (or4 x0 x1 x2 x3 h0 h0' h1 h1' h2 h2' h3 h3')
  go_enter Try.func48, Try.ntmps48
  go_wp2
  go_returns
  rw [HE.out]
  exact ⟨rfl, moved_eq w B _ _ (by omega)⟩

set_option maxRecDepth 100000 in
theorem fix4_none (w : World) (B : Nat) (A : Option Addr) (cap n i : Nat) (hn : n ≤ 100000) (hi : n < i + 4) (hi' : i ≤ n) (c0 : w.cell? ⟨B, 0, none⟩ = some (.slice A n cap)) (c1 : w.cell? ⟨B, 1, none⟩ = some (.int .i64 i)) :
    Calls Try.prog 48 #[.pointer (some ⟨B, 0, none⟩)] w (ErrPost w) := by
  have d : decide ((n : Int) < (i : Int) + 4) = true := by simp; omega
  go_enter Try.func48, Try.ntmps48
  go_wp2
  go_returns
  exact ⟨_, _, rfl, rfl⟩

theorem W_4 {r : List Int} (hk : 4 ≤ r.length) : W (r.take 4) = at8 r 0 + at8 r 1 * 256 + at8 r 2 * 65536 + at8 r 3 * 16777216 := by
  match r, hk with
  | y0 :: y1 :: y2 :: y3 :: r, _ => simp [W, at8]; omega

/-- A number of 32 bits. -/
def f4 (r : List Int) : Option (Int × Nat) := if 4 ≤ r.length then some (W (r.take 4), 4) else none

theorem fix4_any (w : World) (B : Nat) (A : Option Addr) (cap : Nat) (b : List Int) (i : Nat) (h : IsBuf w B A cap b i) (x : Int) (m : Nat) (hd : f4 (b.drop i) = some (x, m)) :
    Calls Try.prog 48 #[.pointer (some ⟨B, 0, none⟩)] w fun e w' => e = .returned (.tuple #[.int .u64 x, .nilIface]) ∧ moved w B (i + m) = w' := by
  have hlen : (b.drop i).length = b.length - i := List.length_drop
  have bd := at8_bd (bytes_drop h.holds.1 i)
  unfold f4 at hd
  split at hd
  · rename_i hk
    simp only [Option.some.injEq, Prod.mk.injEq] at hd
    obtain ⟨rfl, rfl⟩ := hd
    obtain ⟨g, rfl, hg, hc⟩ := form w B A cap b i h (by omega)
    rw [W_4 hk]
    exact fix4_some w B g cap b.length i h.small (by omega) h.room h.c0 h.c1 h.f1 hg _ _ _ _ (bd 0).1 (bd 0).2 (bd 1).1 (bd 1).2 (bd 2).1 (bd 2).2 (bd 3).1 (bd 3).2 (hc 0 (by omega)) (hc 1 (by omega)) (hc 2 (by omega)) (hc 3 (by omega))
  · simp at hd

theorem fix4_nil (w : World) (B : Nat) (A : Option Addr) (cap : Nat) (b : List Int) (i : Nat) (h : IsBuf w B A cap b i) (hd : f4 (b.drop i) = none) :
    Calls Try.prog 48 #[.pointer (some ⟨B, 0, none⟩)] w (ErrPost w) := by
  have hlen : (b.drop i).length = b.length - i := List.length_drop
  have le := h.le
  unfold f4 at hd
  split at hd
  · simp at hd
  · exact fix4_none w B A cap b.length i h.small (by omega) le h.c0 h.c1

theorem or8 (x0 x1 x2 x3 x4 x5 x6 x7 : Int) (h0 : 0 ≤ x0) (h0' : x0 < 256) (h1 : 0 ≤ x1) (h1' : x1 < 256) (h2 : 0 ≤ x2) (h2' : x2 < 256) (h3 : 0 ≤ x3) (h3' : x3 < 256) (h4 : 0 ≤ x4) (h4' : x4 < 256) (h5 : 0 ≤ x5) (h5' : x5 < 256) (h6 : 0 ≤ x6) (h6' : x6 < 256) (h7 : 0 ≤ x7) (h7' : x7 < 256) : bits .or .u64 (bits .or .u64 (bits .or .u64 (bits .or .u64 (bits .or .u64 (bits .or .u64 (bits .or .u64 x0 (x1 * 256)) (x2 * 65536)) (x3 * 16777216)) (x4 * 4294967296)) (x5 * 1099511627776)) (x6 * 281474976710656)) (x7 * 72057594037927936) = x0 + x1 * 256 + x2 * 65536 + x3 * 16777216 + x4 * 4294967296 + x5 * 1099511627776 + x6 * 281474976710656 + x7 * 72057594037927936 := by
  rw [or_up 8 256 _ x1 (by decide) (by decide) (by omega) (by omega) h1 h1', or_up 16 65536 _ x2 (by decide) (by decide) (by omega) (by omega) h2 h2', or_up 24 16777216 _ x3 (by decide) (by decide) (by omega) (by omega) h3 h3', or_up 32 4294967296 _ x4 (by decide) (by decide) (by omega) (by omega) h4 h4', or_up 40 1099511627776 _ x5 (by decide) (by decide) (by omega) (by omega) h5 h5', or_up 48 281474976710656 _ x6 (by decide) (by decide) (by omega) (by omega) h6 h6', or_up 56 72057594037927936 _ x7 (by decide) (by decide) (by omega) (by omega) h7 h7']

set_option maxRecDepth 100000 in
theorem fix8_some (w : World) (B g : Nat) (cap n i : Nat) (hn : n ≤ 100000) (hi : i + 8 ≤ n) (hcap : n ≤ cap) (c0 : w.cell? ⟨B, 0, none⟩ = some (.slice (some ⟨g, 0, none⟩) n cap)) (c1 : w.cell? ⟨B, 1, none⟩ = some (.int .i64 i)) (f1 : w.frozen? ⟨B, 1, none⟩ = false)
    (hne : ¬ g = B) (x0 x1 x2 x3 x4 x5 x6 x7 : Int) (h0 : 0 ≤ x0) (h0' : x0 < 256) (h1 : 0 ≤ x1) (h1' : x1 < 256) (h2 : 0 ≤ x2) (h2' : x2 < 256) (h3 : 0 ≤ x3) (h3' : x3 < 256) (h4 : 0 ≤ x4) (h4' : x4 < 256) (h5 : 0 ≤ x5) (h5' : x5 < 256) (h6 : 0 ≤ x6) (h6' : x6 < 256) (h7 : 0 ≤ x7) (h7' : x7 < 256) (e0 : w.cell? ⟨g, i, none⟩ = some (.int .u8 x0)) (e1 : w.cell? ⟨g, i + 1, none⟩ = some (.int .u8 x1)) (e2 : w.cell? ⟨g, i + 2, none⟩ = some (.int .u8 x2)) (e3 : w.cell? ⟨g, i + 3, none⟩ = some (.int .u8 x3)) (e4 : w.cell? ⟨g, i + 4, none⟩ = some (.int .u8 x4)) (e5 : w.cell? ⟨g, i + 5, none⟩ = some (.int .u8 x5)) (e6 : w.cell? ⟨g, i + 6, none⟩ = some (.int .u8 x6)) (e7 : w.cell? ⟨g, i + 7, none⟩ = some (.int .u8 x7)) :
    Calls Try.prog 49 #[.pointer (some ⟨B, 0, none⟩)] w fun e w' => e = .returned (.tuple #[.int .u64 (x0 + x1 * 256 + x2 * 65536 + x3 * 16777216 + x4 * 4294967296 + x5 * 1099511627776 + x6 * 281474976710656 + x7 * 72057594037927936), .nilIface]) ∧ moved w B (i + 8) = w' := by
  have HE := Lib.hid (or8 x0 x1 x2 x3 x4 x5 x6 x7 h0 h0' h1 h1' h2 h2' h3 h3' h4 h4' h5 h5' h6 h6' h7 h7')
  go_enter Try.func49, Try.ntmps49
  go_wp2
  go_returns
  rw [HE.out]
  exact ⟨rfl, moved_eq w B _ _ (by omega)⟩

set_option maxRecDepth 100000 in
theorem fix8_none (w : World) (B : Nat) (A : Option Addr) (cap n i : Nat) (hn : n ≤ 100000) (hi : n < i + 8) (hi' : i ≤ n) (c0 : w.cell? ⟨B, 0, none⟩ = some (.slice A n cap)) (c1 : w.cell? ⟨B, 1, none⟩ = some (.int .i64 i)) :
    Calls Try.prog 49 #[.pointer (some ⟨B, 0, none⟩)] w (ErrPost w) := by
  have d : decide ((n : Int) < (i : Int) + 8) = true := by simp; omega
  go_enter Try.func49, Try.ntmps49
  go_wp2
  go_returns
  exact ⟨_, _, rfl, rfl⟩

theorem W_8 {r : List Int} (hk : 8 ≤ r.length) : W (r.take 8) = at8 r 0 + at8 r 1 * 256 + at8 r 2 * 65536 + at8 r 3 * 16777216 + at8 r 4 * 4294967296 + at8 r 5 * 1099511627776 + at8 r 6 * 281474976710656 + at8 r 7 * 72057594037927936 := by
  match r, hk with
  | y0 :: y1 :: y2 :: y3 :: y4 :: y5 :: y6 :: y7 :: r, _ => simp [W, at8]; omega

/-- A number of 64 bits. -/
def f8 (r : List Int) : Option (Int × Nat) := if 8 ≤ r.length then some (W (r.take 8), 8) else none

theorem fix8_any (w : World) (B : Nat) (A : Option Addr) (cap : Nat) (b : List Int) (i : Nat) (h : IsBuf w B A cap b i) (x : Int) (m : Nat) (hd : f8 (b.drop i) = some (x, m)) :
    Calls Try.prog 49 #[.pointer (some ⟨B, 0, none⟩)] w fun e w' => e = .returned (.tuple #[.int .u64 x, .nilIface]) ∧ moved w B (i + m) = w' := by
  have hlen : (b.drop i).length = b.length - i := List.length_drop
  have bd := at8_bd (bytes_drop h.holds.1 i)
  unfold f8 at hd
  split at hd
  · rename_i hk
    simp only [Option.some.injEq, Prod.mk.injEq] at hd
    obtain ⟨rfl, rfl⟩ := hd
    obtain ⟨g, rfl, hg, hc⟩ := form w B A cap b i h (by omega)
    rw [W_8 hk]
    exact fix8_some w B g cap b.length i h.small (by omega) h.room h.c0 h.c1 h.f1 hg _ _ _ _ _ _ _ _ (bd 0).1 (bd 0).2 (bd 1).1 (bd 1).2 (bd 2).1 (bd 2).2 (bd 3).1 (bd 3).2 (bd 4).1 (bd 4).2 (bd 5).1 (bd 5).2 (bd 6).1 (bd 6).2 (bd 7).1 (bd 7).2 (hc 0 (by omega)) (hc 1 (by omega)) (hc 2 (by omega)) (hc 3 (by omega)) (hc 4 (by omega)) (hc 5 (by omega)) (hc 6 (by omega)) (hc 7 (by omega))
  · simp at hd

theorem fix8_nil (w : World) (B : Nat) (A : Option Addr) (cap : Nat) (b : List Int) (i : Nat) (h : IsBuf w B A cap b i) (hd : f8 (b.drop i) = none) :
    Calls Try.prog 49 #[.pointer (some ⟨B, 0, none⟩)] w (ErrPost w) := by
  have hlen : (b.drop i).length = b.length - i := List.length_drop
  have le := h.le
  unfold f8 at hd
  split at hd
  · simp at hd
  · exact fix8_none w B A cap b.length i h.small (by omega) le h.c0 h.c1

end Go.Proofs.Ytobponaenabpgaa.Rd
