/-
  NARROWER THAN 'FOR EVERY INPUT', by the rows' own cells (each row's printed sentence says how): FnSkip: loops.
  DERIVED. THE GIVEN ROWS OF THIS SEAT. 6 by the template 'for every input the law returns true; each argument reads behind the call as it read before'; 0 by the template 'total and deterministic' (their statements: YtobponaenabpgaaTotals.lean).
  GIVEN WITH THE SEED: the statements are not yours to turn. If you find one false, say at which input.
  Laid BY PROGRAM, IN A SANDBOX (cutbox-rows.mjs): the forced cells as the released guide's own fill.sh prints them over the translation 6234625ee3bbbfd8… (all of the seat's roots in one cut). By AI agents, Wed Nov 11 2026. No macro, syntax, notation, axiom, sorry.
-/
import Derived.Test.YtobponaenabpgaaChecked
import GoSem.Claim
import GoSem.ClaimJoined
import GoSem.ClaimMapViews
import Derived.JoinedTies
import Derived.KernelRfl
namespace Go.Proofs.Ytobponaenabpgaa
/- THE CELL 'sum', in the pinned program and in every row, IS THE sha256 OF THE DUMP (.gsa) THAT YtobponaenabpgaaProg.lean LOADS. Nothing in Lean hashes anything: it is a label: what it is worth is what the hold of that sum in a sandbox is worth. -/
noncomputable def Try.pinned : Pinned := { name := "ytobponaenabpgaa", sum := "6234625ee3bbbfd805dc36bffe051ed45f6a9d8209252ac282aa8a09b0778542", checked := Try.checked }
namespace Rows
def none {H : Type} : Left H := { results := [], args := [] }

/-- 'laws.FnSevens': WHATEVER THE INPUT: true; the input reads as it did. -/
def fnSevensSpec : ChangeSpec := { name := "fnSevens", fn := fun _ => fun
  | [d1, d2] => { results := [.lit (.bool true)], args := [d1, d2] }
  | _ => none }
def fnSevensRow : OpenClaim := { program := "ytobponaenabpgaa", sum := "6234625ee3bbbfd805dc36bffe051ed45f6a9d8209252ac282aa8a09b0778542", func := "valuesasbytes/laws.FnSevens", spec := "fnSevens", apart := false }
def FnSevensSaid : Prop := fnSevensRow.holds Try.pinned (OpenSpec.ofChange fnSevensSpec)

/-- ITS FALSE NEIGHBOUR: 'it returns false'. Refute it at one input. -/
def fnSevensWrong : ChangeSpec := { name := "fnSevens", fn := fun _ => fun
  | [d1, d2] => { results := [.lit (.bool false)], args := [d1, d2] }
  | _ => none }
def FnSevensWrongFalsely : Prop := fnSevensRow.holds Try.pinned (OpenSpec.ofChange fnSevensWrong)

/-- 'laws.FnLength': WHATEVER THE INPUT: true; the input reads as it did. -/
def fnLengthSpec : ChangeSpec := { name := "fnLength", fn := fun _ => fun
  | [d1, d2, d3] => { results := [.lit (.bool true)], args := [d1, d2, d3] }
  | _ => none }
def fnLengthRow : OpenClaim := { program := "ytobponaenabpgaa", sum := "6234625ee3bbbfd805dc36bffe051ed45f6a9d8209252ac282aa8a09b0778542", func := "valuesasbytes/laws.FnLength", spec := "fnLength", apart := false }
def FnLengthSaid : Prop := fnLengthRow.holds Try.pinned (OpenSpec.ofChange fnLengthSpec)

/-- ITS FALSE NEIGHBOUR: 'it returns false'. Refute it at one input. -/
def fnLengthWrong : ChangeSpec := { name := "fnLength", fn := fun _ => fun
  | [d1, d2, d3] => { results := [.lit (.bool false)], args := [d1, d2, d3] }
  | _ => none }
def FnLengthWrongFalsely : Prop := fnLengthRow.holds Try.pinned (OpenSpec.ofChange fnLengthWrong)

/-- 'laws.FnSkip': WHATEVER THE INPUT: true; the input reads as it did. -/
def fnSkipSpec : ChangeSpec := { name := "fnSkip", fn := fun _ => fun
  | [d1, d2] => { results := [.lit (.bool true)], args := [d1, d2] }
  | _ => none }
def fnSkipRow : OpenClaim := { program := "ytobponaenabpgaa", sum := "6234625ee3bbbfd805dc36bffe051ed45f6a9d8209252ac282aa8a09b0778542", func := "valuesasbytes/laws.FnSkip", spec := "fnSkip", recurses := true, loops := true, apart := false }
def FnSkipSaid : Prop := fnSkipRow.holds Try.pinned (OpenSpec.ofChange fnSkipSpec)

/-- ITS FALSE NEIGHBOUR: 'it returns false'. Refute it at one input. -/
def fnSkipWrong : ChangeSpec := { name := "fnSkip", fn := fun _ => fun
  | [d1, d2] => { results := [.lit (.bool false)], args := [d1, d2] }
  | _ => none }
def FnSkipWrongFalsely : Prop := fnSkipRow.holds Try.pinned (OpenSpec.ofChange fnSkipWrong)

/-- 'laws.FnStamp': WHATEVER THE INPUT: true; the input reads as it did. -/
def fnStampSpec : ChangeSpec := { name := "fnStamp", fn := fun _ => fun
  | [d1, d2, d3] => { results := [.lit (.bool true)], args := [d1, d2, d3] }
  | _ => none }
def fnStampRow : OpenClaim := { program := "ytobponaenabpgaa", sum := "6234625ee3bbbfd805dc36bffe051ed45f6a9d8209252ac282aa8a09b0778542", func := "valuesasbytes/laws.FnStamp", spec := "fnStamp", apart := false }
def FnStampSaid : Prop := fnStampRow.holds Try.pinned (OpenSpec.ofChange fnStampSpec)

/-- ITS FALSE NEIGHBOUR: 'it returns false'. Refute it at one input. -/
def fnStampWrong : ChangeSpec := { name := "fnStamp", fn := fun _ => fun
  | [d1, d2, d3] => { results := [.lit (.bool false)], args := [d1, d2, d3] }
  | _ => none }
def FnStampWrongFalsely : Prop := fnStampRow.holds Try.pinned (OpenSpec.ofChange fnStampWrong)

/-- 'laws.FnRead': WHATEVER THE INPUT: true; the input reads as it did. -/
def fnReadSpec : ChangeSpec := { name := "fnRead", fn := fun _ => fun
  | [d1, d2] => { results := [.lit (.bool true)], args := [d1, d2] }
  | _ => none }
def fnReadRow : OpenClaim := { program := "ytobponaenabpgaa", sum := "6234625ee3bbbfd805dc36bffe051ed45f6a9d8209252ac282aa8a09b0778542", func := "valuesasbytes/laws.FnRead", spec := "fnRead", apart := false }
def FnReadSaid : Prop := fnReadRow.holds Try.pinned (OpenSpec.ofChange fnReadSpec)

/-- ITS FALSE NEIGHBOUR: 'it returns false'. Refute it at one input. -/
def fnReadWrong : ChangeSpec := { name := "fnRead", fn := fun _ => fun
  | [d1, d2] => { results := [.lit (.bool false)], args := [d1, d2] }
  | _ => none }
def FnReadWrongFalsely : Prop := fnReadRow.holds Try.pinned (OpenSpec.ofChange fnReadWrong)

/-- 'laws.FnWritten': WHATEVER THE INPUT: true; the input reads as it did. -/
def fnWrittenSpec : ChangeSpec := { name := "fnWritten", fn := fun _ => fun
  | [d1, d2] => { results := [.lit (.bool true)], args := [d1, d2] }
  | _ => none }
def fnWrittenRow : OpenClaim := { program := "ytobponaenabpgaa", sum := "6234625ee3bbbfd805dc36bffe051ed45f6a9d8209252ac282aa8a09b0778542", func := "valuesasbytes/laws.FnWritten", spec := "fnWritten", apart := false }
def FnWrittenSaid : Prop := fnWrittenRow.holds Try.pinned (OpenSpec.ofChange fnWrittenSpec)

/-- ITS FALSE NEIGHBOUR: 'it returns false'. Refute it at one input. -/
def fnWrittenWrong : ChangeSpec := { name := "fnWritten", fn := fun _ => fun
  | [d1, d2] => { results := [.lit (.bool false)], args := [d1, d2] }
  | _ => none }
def FnWrittenWrongFalsely : Prop := fnWrittenRow.holds Try.pinned (OpenSpec.ofChange fnWrittenWrong)

/- THE SECOND FORM. 'bulk': how many values and letters a reading holds, each counted each time it is reached (what is shared counts as often as it is met; a slice's spare places count too). A statement '..UptoSaid' is the law's where the arguments, and the package variables that the reading takes, are together of bulk at most 1048576: NARROWER than '..Said'. Prove '..Said' where nothing that the law and all that it calls make is longer than what came in: it says more and counts as full. Else prove '..UptoSaid'. A law counts once. -/
mutual
def uptoBulk {H : Type} : DataW H → Nat
  | .lit (.string bytes) => bytes.length + 1
  | .lit _ => 1
  | .nil => 1
  | .ptr d => uptoBulk d + 1
  | .slice elems spare => uptoBulkAll elems + uptoBulkAll spare + 1
  | .agg parts => uptoBulkAll parts + 1
  | .iface _ d => uptoBulk d + 1
  | .map entries => uptoBulkEntries entries + 1
  | .held _ => 1
def uptoBulkAll {H : Type} : List (DataW H) → Nat
  | [] => 0
  | d :: r => uptoBulk d + uptoBulkAll r
def uptoBulkEntries {H : Type} : List (Lit × DataW H) → Nat
  | [] => 0
  | x :: r => uptoBulkEntry x + uptoBulkEntries r
def uptoBulkEntry {H : Type} : Lit × DataW H → Nat
  | (.string bytes, d) => bytes.length + uptoBulk d + 1
  | (_, d) => uptoBulk d + 1
 end
def uptoSmall : (H : Type) → List (DataW H) → Bool := fun _ ds => decide (uptoBulkAll ds ≤ 1048576)
def OpenSpec.upto (s : _root_.Go.ChangeSpec) : _root_.Go.OpenSpec := { _root_.Go.OpenSpec.ofChange s with cond := some uptoSmall }

/-- 'laws.FnSevens', WHERE WHAT IT READS IS OF BULK AT MOST 1048576: true; the input reads as it did. -/
def fnSevensUptoRow : OpenClaim := { program := "ytobponaenabpgaa", sum := "6234625ee3bbbfd805dc36bffe051ed45f6a9d8209252ac282aa8a09b0778542", func := "valuesasbytes/laws.FnSevens", spec := "fnSevens", apart := false, narrowed := true }
def FnSevensUptoSaid : Prop := fnSevensUptoRow.holds Try.pinned (OpenSpec.upto fnSevensSpec)

/-- 'laws.FnLength', WHERE WHAT IT READS IS OF BULK AT MOST 1048576: true; the input reads as it did. -/
def fnLengthUptoRow : OpenClaim := { program := "ytobponaenabpgaa", sum := "6234625ee3bbbfd805dc36bffe051ed45f6a9d8209252ac282aa8a09b0778542", func := "valuesasbytes/laws.FnLength", spec := "fnLength", apart := false, narrowed := true }
def FnLengthUptoSaid : Prop := fnLengthUptoRow.holds Try.pinned (OpenSpec.upto fnLengthSpec)

/-- 'laws.FnSkip', WHERE WHAT IT READS IS OF BULK AT MOST 1048576: true; the input reads as it did. -/
def fnSkipUptoRow : OpenClaim := { program := "ytobponaenabpgaa", sum := "6234625ee3bbbfd805dc36bffe051ed45f6a9d8209252ac282aa8a09b0778542", func := "valuesasbytes/laws.FnSkip", spec := "fnSkip", recurses := true, loops := true, apart := false, narrowed := true }
def FnSkipUptoSaid : Prop := fnSkipUptoRow.holds Try.pinned (OpenSpec.upto fnSkipSpec)

/-- 'laws.FnStamp', WHERE WHAT IT READS IS OF BULK AT MOST 1048576: true; the input reads as it did. -/
def fnStampUptoRow : OpenClaim := { program := "ytobponaenabpgaa", sum := "6234625ee3bbbfd805dc36bffe051ed45f6a9d8209252ac282aa8a09b0778542", func := "valuesasbytes/laws.FnStamp", spec := "fnStamp", apart := false, narrowed := true }
def FnStampUptoSaid : Prop := fnStampUptoRow.holds Try.pinned (OpenSpec.upto fnStampSpec)

/-- 'laws.FnRead', WHERE WHAT IT READS IS OF BULK AT MOST 1048576: true; the input reads as it did. -/
def fnReadUptoRow : OpenClaim := { program := "ytobponaenabpgaa", sum := "6234625ee3bbbfd805dc36bffe051ed45f6a9d8209252ac282aa8a09b0778542", func := "valuesasbytes/laws.FnRead", spec := "fnRead", apart := false, narrowed := true }
def FnReadUptoSaid : Prop := fnReadUptoRow.holds Try.pinned (OpenSpec.upto fnReadSpec)

/-- 'laws.FnWritten', WHERE WHAT IT READS IS OF BULK AT MOST 1048576: true; the input reads as it did. -/
def fnWrittenUptoRow : OpenClaim := { program := "ytobponaenabpgaa", sum := "6234625ee3bbbfd805dc36bffe051ed45f6a9d8209252ac282aa8a09b0778542", func := "valuesasbytes/laws.FnWritten", spec := "fnWritten", apart := false, narrowed := true }
def FnWrittenUptoSaid : Prop := fnWrittenUptoRow.holds Try.pinned (OpenSpec.upto fnWrittenSpec)

end Rows
end Go.Proofs.Ytobponaenabpgaa
