/- The program's Written of many values. -/
import Derived.Test.YtobponaenabpgaaWrFit
import Derived.Test.YtobponaenabpgaaWrPure
import Derived.Test.YtobponaenabpgaaWrZig
namespace Go.Proofs.Ytobponaenabpgaa.Rd
open Go.ChangeShapes Go.WideShapes Go.ChangeAt Go.RowKit Sv Go.Proofs.YtobponaenabpgaaW Go.Proofs.YtobponaenabpgaaW.PrintWords
set_option linter.unusedVariables false

/-- A value as the plain law has it. -/
def itOf (x : Raw) : It := ⟨x.kind.toNat, x.n, x.bytes⟩

/-- The row of values of which the law speaks. -/
structure Given (w : World) (A : Option Addr) (q : List Raw) : Prop where
  row : InRow w A q
  ok : ∀ x ∈ q, RawOk w x
  fit : ∀ x ∈ q, FitR x
  few : q.length ≤ 30

theorem RawOk.below {w w1 : World} {x : Raw} (h : RawOk w x) (hb : Below w.heap.size w w1) : RawOk w1 x :=
  { h with holds := holds_below h.holds hb }
theorem Given.below {w w1 : World} {A : Option Addr} {q : List Raw} (h : Given w A q) (hb : Below w.heap.size w w1) : Given w1 A q :=
  { row := h.row.below hb, ok := fun x hx => (h.ok x hx).below hb, fit := h.fit, few := h.few }

theorem fit_of {w : World} {x : Raw} (h : RawOk w x) (f : FitR x) : Fit (itOf x) := by
  obtain ⟨⟨k, hk, e⟩, f1, f2⟩ := f
  have hl : x.bytes.length ≤ 300 := by
    by_cases h5 : x.kind < 5
    · rw [(f1 h5).1]; simp
    · exact (f2 h5).2
  refine ⟨by simp only [itOf]; omega, h.n0, h.n1, by simp only [itOf]; omega, fun h4 => ?_, fun h4 => ?_⟩
  · simp only [itOf] at h4 ⊢
    exact (f1 (by omega)).1
  · simp only [itOf] at h4 ⊢
    exact (f2 (by omega)).1

theorem encs_snoc : ∀ (a : List It) (x : It), encs' (a ++ [x]) = encs' a ++ encIt x.kind x.n x.bytes
  | [], x => by simp [encs']
  | y :: r, x => by simp [encs', encs_snoc r x]

theorem encIt_len {it : It} (h : Fit it) (hl : it.bytes.length ≤ 300) : (encIt it.kind it.n it.bytes).length ≤ 310 := by
  obtain ⟨k, n, l⟩ := it
  obtain ⟨h1, h2, h3, h4, h5, h6⟩ := h
  simp only at h1 h2 h3 h4 h5 h6 hl ⊢
  have b64 := fo64_bd h2 h3
  have b32 := fo32_bd n
  have s1 := sev_len10 (n := n.toNat) (by omega)
  have s3 := sev_len10 (n := (fo32 n).toNat) (by omega)
  have s4 := sev_len10 (n := (fo64 n).toNat) (by omega)
  have s5 := sev_len10 (n := l.length) (by omega)
  have hc : k = 0 ∨ k = 1 ∨ k = 2 ∨ k = 3 ∨ k = 4 ∨ k = 5 ∨ k = 6 := by omega
  rcases hc with rfl | rfl | rfl | rfl | rfl | rfl | rfl <;> simp only [encIt, lo_len, List.length_append] <;> omega

theorem encs_len : ∀ (q : List It), (∀ x ∈ q, Fit x ∧ x.bytes.length ≤ 300) → (encs' q).length ≤ q.length * 310
  | [], _ => by simp [encs']
  | x :: r, h => by
    have h1 := encIt_len (h x (by simp)).1 (h x (by simp)).2
    have h2 := encs_len r fun y hy => h y (by simp [hy])
    simp only [encs', List.length_append, List.length_cons]
    omega

theorem Given.bytes {w : World} {A : Option Addr} {q : List Raw} (h : Given w A q) : ∀ x ∈ q.map itOf, Fit x ∧ x.bytes.length ≤ 300 := by
  intro y hy
  obtain ⟨x, hx, rfl⟩ := List.mem_map.1 hy
  refine ⟨fit_of (h.ok x hx) (h.fit x hx), ?_⟩
  obtain ⟨_, f1, f2⟩ := h.fit x hx
  by_cases h5 : x.kind < 5
  · simp [itOf, (f1 h5).1]
  · exact (f2 h5).2

theorem Given.take_len {w : World} {A : Option Addr} {q : List Raw} (h : Given w A q) (j : Nat) : (encs' ((q.map itOf).take j)).length ≤ 9300 := by
  have h1 := encs_len ((q.map itOf).take j) fun x hx => h.bytes x (List.mem_of_mem_take hx)
  have h2 : ((q.map itOf).take j).length ≤ 30 := by have := h.few; simp; omega
  omega

theorem take_next {q : List Raw} {j : Nat} (hj : j < q.length) : encs' ((q.map itOf).take (j + 1)) = encs' ((q.map itOf).take j) ++ encIt (q[j]).kind.toNat (q[j]).n (q[j]).bytes := by
  rw [List.take_succ_eq_append_getElem (by simpa using hj), encs_snoc]
  simp [itOf]

theorem OutBuf.alloc {w : World} {B : Nat} {v : Value} {xs : List Int} (h : OutBuf w B v xs) (o : Obj) : OutBuf (w.alloc o) B v xs := by
  have hb : Below (B + 1) w (w.alloc o) := (Below.refl _ _).alloc h.lt _
  obtain ⟨h1, h2⟩ := h.cells hb
  exact ⟨h1, h2, h.own.alloc o⟩

/-- What stands at the head of a round. -/
def Outs (w : World) (q : List Raw) (j : Nat) (wr : World) : Prop := ∃ v, OutBuf wr w.heap.size v (encs' ((q.map itOf).take j)) ∧ Below w.heap.size w wr

theorem Outs.next {w wr w2 : World} {q : List Raw} {j : Nat} {o : Obj} {e : Ending} (h : Outs w q j wr) (hj : j < q.length) {ys : List Int} (he : ys = encIt (q[j]).kind.toNat (q[j]).n (q[j]).bytes)
    (hp : PutPost w.heap.size (encs' ((q.map itOf).take j) ++ ys) (wr.alloc o) e w2) : e = .returned .nilIface ∧ Hid (Outs w q (j + 1) w2) := by
  obtain ⟨v, h1, h2⟩ := h
  obtain ⟨e1, v2, h3, h4⟩ := hp
  subst he
  exact ⟨e1, v2, by rw [take_next hj]; exact h3, (h2.alloc h2.size o).trans h4⟩

theorem bytes_at (w : World) (B : Nat) (v : Value) (xs : List Int) (h : OutBuf w B v xs) : Calls Try.prog 65 #[.pointer (some ⟨B, 0, none⟩)] w fun e w' => e = .returned v ∧ w = w' := by
  have c0 := h.c0
  obtain ⟨A, m, c, rfl⟩ := own_any h.own
  clear h
  go_enter Try.func65, Try.ntmps65
  go_wp2
  go_ret
  exact ⟨rfl, rfl⟩

theorem start_buf (w : World) : OutBuf (w.alloc (.cells #[.slice none 0 0, .int .i64 0, .bool false] 120)) w.heap.size (.slice none 0 0) [] :=
  ⟨by simp, by simp, own_nil _ _ _ _⟩

theorem new_any (w : World) : Calls Try.prog 46 #[.slice none 0 0] w fun e w' => e = .returned (.pointer (some ⟨w.heap.size, 0, none⟩)) ∧ w.alloc (.cells #[.slice none 0 0, .int .i64 0, .bool false] 120) = w' := by
  go_enter Try.func46, Try.ntmps46
  go_wp2
  go_ret
  exact ⟨rfl, rfl⟩

theorem Outs.start (w : World) (q : List Raw) : Outs w q 0 (w.alloc (.cells #[.slice none 0 0, .int .i64 0, .bool false] 120)) := ⟨_, start_buf w, (Below.refl _ _).alloc (Nat.le_refl _) _⟩

theorem Outs.below {w wr : World} {q : List Raw} {j : Nat} (h : Outs w q j wr) : Below w.heap.size w wr := by obtain ⟨v, _, h⟩ := h; exact h

theorem Outs.done {w wr : World} {q : List Raw} (h : Outs w q q.length wr) : ∃ v, Hid (RowPost (encs' (q.map itOf)) w (.returned v) wr) ∧ Calls Try.prog 65 #[.pointer (some ⟨w.heap.size, 0, none⟩)] wr fun e w' => e = .returned v ∧ wr = w' := by
  obtain ⟨v, h1, h2⟩ := h
  refine ⟨v, ⟨v, rfl, ?_, h2⟩, bytes_at _ _ _ _ h1⟩
  have := own_weaken h1.own (Nat.le_succ w.heap.size)
  rw [List.take_of_length_le (by simp)] at this
  exact this

/-- The numbers' calls, at the head of a round. -/
theorem Outs.num {w wr : World} {q : List Raw} {j : Nat} (h : Outs w q j wr) (hj : j < q.length) (hl : (encs' ((q.map itOf).take j)).length ≤ 9300) (o : Obj) {k : Nat} {n : Int} {l : List Int} (hk : (q[j]).kind.toNat = k) (hn : (q[j]).n = n) (hb : (q[j]).bytes = l) (h0 : 0 ≤ n) (h1 : n ≤ 18446744073709551615) (f : FuncId)
    (hf : (k = 0 ∧ f = 58) ∨ (k = 1 ∧ f = 59) ∨ (k = 2 ∧ f = 60) ∨ (k = 3 ∧ f = 61) ∨ (k = 4 ∧ f = 62)) :
    Calls Try.prog f #[.pointer (some ⟨w.heap.size, 0, none⟩), .int .u64 n] (wr.alloc o) fun e w2 => e = .returned .nilIface ∧ Hid (Outs w q (j + 1) w2) := by
  subst hk hn hb
  obtain ⟨v, h2, h3⟩ := id h
  have hO := h2.alloc o
  rcases hf with ⟨hk, rfl⟩ | ⟨hk, rfl⟩ | ⟨hk, rfl⟩ | ⟨hk, rfl⟩ | ⟨hk, rfl⟩
  · obtain ⟨m, hm⟩ := Int.eq_ofNat_of_zero_le h0
    have := put_varint m (by omega) (wr.alloc o) _ v _ hO (by omega)
    rw [← hm] at this
    exact this.mono fun e w2 hp => h.next hj (by rw [hk, hm]; rfl) hp
  · exact (put_fix32 _ h0 h1 (wr.alloc o) _ v _ hO (by omega)).mono fun e w2 hp => h.next hj (by rw [hk]; rfl) hp
  · exact (put_fix64 _ h0 h1 (wr.alloc o) _ v _ hO (by omega)).mono fun e w2 hp => h.next hj (by rw [hk]; rfl) hp
  · exact (put_zig32 _ h0 h1 (wr.alloc o) _ v _ hO (by omega)).mono fun e w2 hp => h.next hj (by rw [hk]; rfl) hp
  · exact (put_zig64 _ h0 h1 (wr.alloc o) _ v _ hO (by omega)).mono fun e w2 hp => h.next hj (by rw [hk]; rfl) hp

/-- The bytes' call. -/
theorem Outs.raw {w wr : World} {q : List Raw} {j : Nat} (h : Outs w q j wr) (hj : j < q.length) (hl : (encs' ((q.map itOf).take j)).length ≤ 9300) (o : Obj) {l : List Int} {a : Option Addr} (c : Nat) (hk : (q[j]).kind = 5) (hb : (q[j]).bytes = l) (hl3 : l.length ≤ 300) (hh : Holds8 w a l) :
    Calls Try.prog 63 #[.pointer (some ⟨w.heap.size, 0, none⟩), .slice a l.length c] (wr.alloc o) fun e w2 => e = .returned .nilIface ∧ Hid (Outs w q (j + 1) w2) := by
  subst hb
  obtain ⟨v, h2, h3⟩ := id h
  have hO := h2.alloc o
  exact (put_raw (wr.alloc o) _ v _ hO (by omega) w a c _ (by omega) hh (Nat.le_refl _) (h3.alloc h3.size o)).mono fun e w2 hp => h.next hj (by rw [hk]; rfl) hp

/-- The text's call. -/
theorem Outs.str {w wr : World} {q : List Raw} {j : Nat} (h : Outs w q j wr) (hj : j < q.length) (hl : (encs' ((q.map itOf).take j)).length ≤ 9300) (o : Obj) {l : List Int} (hk : (q[j]).kind = 6) (hb : (q[j]).bytes = l) (hl3 : l.length ≤ 300) (hB : Bytes8 l) :
    Calls Try.prog 64 #[.pointer (some ⟨w.heap.size, 0, none⟩), .string (strOfNums l)] (wr.alloc o) fun e w2 => e = .returned .nilIface ∧ Hid (Outs w q (j + 1) w2) := by
  subst hb
  obtain ⟨v, h2, h3⟩ := id h
  have hO := h2.alloc o
  exact (put_str (wr.alloc o) _ v _ hO (by omega) _ (by omega) hB).mono fun e w2 hp => h.next hj (by rw [hk]; rfl) hp

set_option maxHeartbeats 4000000 in
set_option maxRecDepth 100000 in
theorem impl_written (w : World) (A : Option Addr) (c : Nat) (q : List Raw) (h : Given w A q) :
    Calls Try.prog 31 #[.slice A q.length c] w (RowPost (encs' (q.map itOf)) w) := by
  have HG := Lib.hid h
  have h30 := h.few
  clear h
  go_enter Try.func31, Try.ntmps31
  go_wp2_with fail
  refine (new_any _).mono ?_
  rintro e w0 ⟨rfl, hw0⟩
  have HS : Hid (Outs w q 0 w0) := by subst hw0; exact Outs.start w q
  clear hw0
  go_wp2_with fail
  go_loopw [9] (fun n wr => ∃ j : Nat, j ≤ q.length ∧ n = .int .i64 j ∧ Hid (Outs w q j wr)) (fun n _ => q.length - (intOf n).toNat)
  case atStart => exact ⟨0, Nat.zero_le _, rfl, HS⟩
  case round =>
    obtain ⟨j, hj, rfl, HI⟩ := hrel
    clear HS
    by_cases hlt : j < q.length
    · have HL := Lib.hid (HG.out.take_len j)
      have hmem := List.getElem_mem hlt
      have hok := HG.out.ok _ hmem
      obtain ⟨⟨k, hk6, hk⟩, hf1, hf2⟩ := HG.out.fit _ hmem
      obtain ⟨g, off, rfl, e0, e1, e2⟩ := (HG.out.row.below HI.out.below).at hlt
      have hn0 := hok.n0
      have hn1 := hok.n1
      have hh := hok.holds
      have hbl : (q[j]).bytes.length ≤ 300 := by
        by_cases h5 : (q[j]).kind < 5
        · rw [(hf1 h5).1]; simp
        · exact (hf2 h5).2
      have HHB := Lib.hid (holds_below hh HI.out.below)
      have HKN : Hid ((q[j]).kind.toNat = k) := by unfold Hid; omega
      have HKK := Lib.hid hk
      obtain ⟨x, hx⟩ : ∃ x, q[j] = x := ⟨_, rfl⟩
      have HX := Lib.hid hx
      rw [hk] at e0
      rw [hx] at e1 e2 hn0 hn1 hh hbl HHB
      clear hk hf1 hf2 hok hmem hx
      have HH := Lib.hid hh
      clear hh
      have hcs : k = 0 ∨ k = 1 ∨ k = 2 ∨ k = 3 ∨ k = 4 ∨ k = 5 ∨ k = 6 := by omega
      rcases hcs with rfl | rfl | rfl | rfl | rfl | rfl | rfl
      · have HP := Lib.hid fun o => HI.out.num hlt HL.out o HKN.out (congrArg Raw.n HX.out) (congrArg Raw.bytes HX.out) hn0 hn1 58 (.inl ⟨rfl, rfl⟩)
        go_wp2_with fail
        refine (HP.out _).mono ?_
        rintro e w2 ⟨rfl, HO⟩
        clear HP e0 e1 e2
        go_wp2_with fail
        go_roundw
        case rel => exact ⟨j + 1, by omega, by go_num, HO⟩
        case measure => simp [intOf]; omega
      · have HP := Lib.hid fun o => HI.out.num hlt HL.out o HKN.out (congrArg Raw.n HX.out) (congrArg Raw.bytes HX.out) hn0 hn1 59 (.inr (.inl ⟨rfl, rfl⟩))
        go_wp2_with fail
        refine (HP.out _).mono ?_
        rintro e w2 ⟨rfl, HO⟩
        clear HP e0 e1 e2
        go_wp2_with fail
        go_roundw
        case rel => exact ⟨j + 1, by omega, by go_num, HO⟩
        case measure => simp [intOf]; omega
      · have HP := Lib.hid fun o => HI.out.num hlt HL.out o HKN.out (congrArg Raw.n HX.out) (congrArg Raw.bytes HX.out) hn0 hn1 60 (.inr (.inr (.inl ⟨rfl, rfl⟩)))
        go_wp2_with fail
        refine (HP.out _).mono ?_
        rintro e w2 ⟨rfl, HO⟩
        clear HP e0 e1 e2
        go_wp2_with fail
        go_roundw
        case rel => exact ⟨j + 1, by omega, by go_num, HO⟩
        case measure => simp [intOf]; omega
      · have HP := Lib.hid fun o => HI.out.num hlt HL.out o HKN.out (congrArg Raw.n HX.out) (congrArg Raw.bytes HX.out) hn0 hn1 61 (.inr (.inr (.inr (.inl ⟨rfl, rfl⟩))))
        go_wp2_with fail
        refine (HP.out _).mono ?_
        rintro e w2 ⟨rfl, HO⟩
        clear HP e0 e1 e2
        go_wp2_with fail
        go_roundw
        case rel => exact ⟨j + 1, by omega, by go_num, HO⟩
        case measure => simp [intOf]; omega
      · have HP := Lib.hid fun o => HI.out.num hlt HL.out o HKN.out (congrArg Raw.n HX.out) (congrArg Raw.bytes HX.out) hn0 hn1 62 (.inr (.inr (.inr (.inr ⟨rfl, rfl⟩))))
        go_wp2_with fail
        refine (HP.out _).mono ?_
        rintro e w2 ⟨rfl, HO⟩
        clear HP e0 e1 e2
        go_wp2_with fail
        go_roundw
        case rel => exact ⟨j + 1, by omega, by go_num, HO⟩
        case measure => simp [intOf]; omega
      · have HP := Lib.hid fun o => HI.out.raw hlt HL.out o x.c HKK.out (congrArg Raw.bytes HX.out) hbl HH.out
        go_wp2_with fail
        refine (HP.out _).mono ?_
        rintro e w2 ⟨rfl, HO⟩
        clear HP e0 e1 e2
        go_wp2_with fail
        go_roundw
        case rel => exact ⟨j + 1, by omega, by go_num, HO⟩
        case measure => simp [intOf]; omega
      · have HP := Lib.hid fun o => HI.out.str hlt HL.out o HKK.out (congrArg Raw.bytes HX.out) hbl HH.out.1
        have hA : Below wr.heap.size wr (wr.alloc (.cells #[.int .i64 6, .int .u64 x.n, .slice x.a x.bytes.length x.c] 62)) := (Below.refl _ _).alloc (Nat.le_refl _) _
        have cv := sl8_string ((holds_sl8 HHB.out).below hA) x.c
        clear hA
        go_wp2_with fail
        refine (HP.out _).mono ?_
        rintro e w2 ⟨rfl, HO⟩
        clear HP e0 e1 e2
        go_wp2_with fail
        go_roundw
        case rel => exact ⟨j + 1, by omega, by go_num, HO⟩
        case measure => simp [intOf]; omega
    · obtain rfl : j = q.length := by omega
      obtain ⟨v, HV, hc⟩ := HI.out.done
      have HC := Lib.hid hc
      clear hc
      go_wp2_with fail
      refine HC.out.mono ?_
      rintro e w2 ⟨rfl, rfl⟩
      go_wp2_with fail
      go_returns
      exact HV.out

end Go.Proofs.Ytobponaenabpgaa.Rd
