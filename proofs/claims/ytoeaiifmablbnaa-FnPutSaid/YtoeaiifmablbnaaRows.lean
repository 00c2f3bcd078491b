/-
  No cell of these rows narrows 'for every input' (looked for: loops, veiled, ifaces, maps, wideKeys, modest, calm, conditions, laid).
  DERIVED. THE GIVEN ROWS OF THIS SEAT. 13 by the template 'for every input the law returns true; each argument reads behind the call as it read before'; 0 by the template 'total and deterministic' (their statements: YtoeaiifmablbnaaTotals.lean).
  GIVEN WITH THE SEED: the statements are not yours to turn. If you find one false, say at which input.
  Laid BY PROGRAM, IN A SANDBOX (cutbox-rows.mjs): the forced cells as the released guide's own fill.sh prints them over the translation dd65a17b06941ce1… (all of the seat's roots in one cut). By AI agents, Wed Nov 11 2026. No macro, syntax, notation, axiom, sorry.
-/
import Derived.Test.YtoeaiifmablbnaaChecked
import GoSem.Claim
import GoSem.ClaimJoined
import GoSem.ClaimMapViews
import Derived.JoinedTies
import Derived.KernelRfl
namespace Go.Proofs.Ytoeaiifmablbnaa
/- THE CELL 'sum', in the pinned program and in every row, IS THE sha256 OF THE DUMP (.gsa) THAT YtoeaiifmablbnaaProg.lean LOADS. Nothing in Lean hashes anything: it is a label: what it is worth is what the hold of that sum in a sandbox is worth. -/
noncomputable def Try.pinned : Pinned := { name := "ytoeaiifmablbnaa", sum := "dd65a17b06941ce15172a53ce3938e642e29586a38bbc507339dbecfe7672cb2", checked := Try.checked }
namespace Rows
def none {H : Type} : Left H := { results := [], args := [] }

/-- 'laws.FnASCIIOnly': WHATEVER THE INPUT: true; the input reads as it did. -/
def fnASCIIOnlySpec : ChangeSpec := { name := "fnASCIIOnly", fn := fun _ => fun
  | [d] => { results := [.lit (.bool true)], args := [d] }
  | _ => none }
def fnASCIIOnlyRow : OpenClaim := { program := "ytoeaiifmablbnaa", sum := "dd65a17b06941ce15172a53ce3938e642e29586a38bbc507339dbecfe7672cb2", func := "runebarge/laws.FnASCIIOnly", spec := "fnASCIIOnly", apart := false }
def FnASCIIOnlySaid : Prop := fnASCIIOnlyRow.holds Try.pinned (OpenSpec.ofChange fnASCIIOnlySpec)

/-- ITS FALSE NEIGHBOUR: 'it returns false'. Refute it at one input. -/
def fnASCIIOnlyWrong : ChangeSpec := { name := "fnASCIIOnly", fn := fun _ => fun
  | [d] => { results := [.lit (.bool false)], args := [d] }
  | _ => none }
def FnASCIIOnlyWrongFalsely : Prop := fnASCIIOnlyRow.holds Try.pinned (OpenSpec.ofChange fnASCIIOnlyWrong)

/-- 'laws.FnApart': WHATEVER THE INPUT: true; the input reads as it did. -/
def fnApartSpec : ChangeSpec := { name := "fnApart", fn := fun _ => fun
  | [d1, d2] => { results := [.lit (.bool true)], args := [d1, d2] }
  | _ => none }
def fnApartRow : OpenClaim := { program := "ytoeaiifmablbnaa", sum := "dd65a17b06941ce15172a53ce3938e642e29586a38bbc507339dbecfe7672cb2", func := "runebarge/laws.FnApart", spec := "fnApart", apart := false }
def FnApartSaid : Prop := fnApartRow.holds Try.pinned (OpenSpec.ofChange fnApartSpec)

/-- ITS FALSE NEIGHBOUR: 'it returns false'. Refute it at one input. -/
def fnApartWrong : ChangeSpec := { name := "fnApart", fn := fun _ => fun
  | [d1, d2] => { results := [.lit (.bool false)], args := [d1, d2] }
  | _ => none }
def FnApartWrongFalsely : Prop := fnApartRow.holds Try.pinned (OpenSpec.ofChange fnApartWrong)

/-- 'laws.FnEncode': WHATEVER THE INPUT: true; the input reads as it did. -/
def fnEncodeSpec : ChangeSpec := { name := "fnEncode", fn := fun _ => fun
  | [d1, d2] => { results := [.lit (.bool true)], args := [d1, d2] }
  | _ => none }
def fnEncodeRow : OpenClaim := { program := "ytoeaiifmablbnaa", sum := "dd65a17b06941ce15172a53ce3938e642e29586a38bbc507339dbecfe7672cb2", func := "runebarge/laws.FnEncode", spec := "fnEncode", apart := false }
def FnEncodeSaid : Prop := fnEncodeRow.holds Try.pinned (OpenSpec.ofChange fnEncodeSpec)

/-- ITS FALSE NEIGHBOUR: 'it returns false'. Refute it at one input. -/
def fnEncodeWrong : ChangeSpec := { name := "fnEncode", fn := fun _ => fun
  | [d1, d2] => { results := [.lit (.bool false)], args := [d1, d2] }
  | _ => none }
def FnEncodeWrongFalsely : Prop := fnEncodeRow.holds Try.pinned (OpenSpec.ofChange fnEncodeWrong)

/-- 'laws.FnPrefix': WHATEVER THE INPUT: true; the input reads as it did. -/
def fnPrefixSpec : ChangeSpec := { name := "fnPrefix", fn := fun _ => fun
  | [d1, d2] => { results := [.lit (.bool true)], args := [d1, d2] }
  | _ => none }
def fnPrefixRow : OpenClaim := { program := "ytoeaiifmablbnaa", sum := "dd65a17b06941ce15172a53ce3938e642e29586a38bbc507339dbecfe7672cb2", func := "runebarge/laws.FnPrefix", spec := "fnPrefix", apart := false }
def FnPrefixSaid : Prop := fnPrefixRow.holds Try.pinned (OpenSpec.ofChange fnPrefixSpec)

/-- ITS FALSE NEIGHBOUR: 'it returns false'. Refute it at one input. -/
def fnPrefixWrong : ChangeSpec := { name := "fnPrefix", fn := fun _ => fun
  | [d1, d2] => { results := [.lit (.bool false)], args := [d1, d2] }
  | _ => none }
def FnPrefixWrongFalsely : Prop := fnPrefixRow.holds Try.pinned (OpenSpec.ofChange fnPrefixWrong)

/-- 'laws.FnCase': WHATEVER THE INPUT: true; the input reads as it did. -/
def fnCaseSpec : ChangeSpec := { name := "fnCase", fn := fun _ => fun
  | [d1, d2] => { results := [.lit (.bool true)], args := [d1, d2] }
  | _ => none }
def fnCaseRow : OpenClaim := { program := "ytoeaiifmablbnaa", sum := "dd65a17b06941ce15172a53ce3938e642e29586a38bbc507339dbecfe7672cb2", func := "runebarge/laws.FnCase", spec := "fnCase", apart := false }
def FnCaseSaid : Prop := fnCaseRow.holds Try.pinned (OpenSpec.ofChange fnCaseSpec)

/-- ITS FALSE NEIGHBOUR: 'it returns false'. Refute it at one input. -/
def fnCaseWrong : ChangeSpec := { name := "fnCase", fn := fun _ => fun
  | [d1, d2] => { results := [.lit (.bool false)], args := [d1, d2] }
  | _ => none }
def FnCaseWrongFalsely : Prop := fnCaseRow.holds Try.pinned (OpenSpec.ofChange fnCaseWrong)

/-- 'laws.FnDecode': WHATEVER THE INPUT: true; the input reads as it did. -/
def fnDecodeSpec : ChangeSpec := { name := "fnDecode", fn := fun _ => fun
  | [d] => { results := [.lit (.bool true)], args := [d] }
  | _ => none }
def fnDecodeRow : OpenClaim := { program := "ytoeaiifmablbnaa", sum := "dd65a17b06941ce15172a53ce3938e642e29586a38bbc507339dbecfe7672cb2", func := "runebarge/laws.FnDecode", spec := "fnDecode", apart := false }
def FnDecodeSaid : Prop := fnDecodeRow.holds Try.pinned (OpenSpec.ofChange fnDecodeSpec)

/-- ITS FALSE NEIGHBOUR: 'it returns false'. Refute it at one input. -/
def fnDecodeWrong : ChangeSpec := { name := "fnDecode", fn := fun _ => fun
  | [d] => { results := [.lit (.bool false)], args := [d] }
  | _ => none }
def FnDecodeWrongFalsely : Prop := fnDecodeRow.holds Try.pinned (OpenSpec.ofChange fnDecodeWrong)

/-- 'laws.FnLess': WHATEVER THE INPUT: true; the input reads as it did. -/
def fnLessSpec : ChangeSpec := { name := "fnLess", fn := fun _ => fun
  | [d] => { results := [.lit (.bool true)], args := [d] }
  | _ => none }
def fnLessRow : OpenClaim := { program := "ytoeaiifmablbnaa", sum := "dd65a17b06941ce15172a53ce3938e642e29586a38bbc507339dbecfe7672cb2", func := "runebarge/laws.FnLess", spec := "fnLess", apart := false }
def FnLessSaid : Prop := fnLessRow.holds Try.pinned (OpenSpec.ofChange fnLessSpec)

/-- ITS FALSE NEIGHBOUR: 'it returns false'. Refute it at one input. -/
def fnLessWrong : ChangeSpec := { name := "fnLess", fn := fun _ => fun
  | [d] => { results := [.lit (.bool false)], args := [d] }
  | _ => none }
def FnLessWrongFalsely : Prop := fnLessRow.holds Try.pinned (OpenSpec.ofChange fnLessWrong)

/-- 'laws.FnNoDigit': WHATEVER THE INPUT: true; the input reads as it did. -/
def fnNoDigitSpec : ChangeSpec := { name := "fnNoDigit", fn := fun _ => fun
  | [d1, d2] => { results := [.lit (.bool true)], args := [d1, d2] }
  | _ => none }
def fnNoDigitRow : OpenClaim := { program := "ytoeaiifmablbnaa", sum := "dd65a17b06941ce15172a53ce3938e642e29586a38bbc507339dbecfe7672cb2", func := "runebarge/laws.FnNoDigit", spec := "fnNoDigit", apart := false }
def FnNoDigitSaid : Prop := fnNoDigitRow.holds Try.pinned (OpenSpec.ofChange fnNoDigitSpec)

/-- ITS FALSE NEIGHBOUR: 'it returns false'. Refute it at one input. -/
def fnNoDigitWrong : ChangeSpec := { name := "fnNoDigit", fn := fun _ => fun
  | [d1, d2] => { results := [.lit (.bool false)], args := [d1, d2] }
  | _ => none }
def FnNoDigitWrongFalsely : Prop := fnNoDigitRow.holds Try.pinned (OpenSpec.ofChange fnNoDigitWrong)

/-- 'laws.FnASCII': WHATEVER THE INPUT: true; the input reads as it did. -/
def fnASCIISpec : ChangeSpec := { name := "fnASCII", fn := fun _ => fun
  | [d] => { results := [.lit (.bool true)], args := [d] }
  | _ => none }
def fnASCIIRow : OpenClaim := { program := "ytoeaiifmablbnaa", sum := "dd65a17b06941ce15172a53ce3938e642e29586a38bbc507339dbecfe7672cb2", func := "runebarge/laws.FnASCII", spec := "fnASCII", apart := false }
def FnASCIISaid : Prop := fnASCIIRow.holds Try.pinned (OpenSpec.ofChange fnASCIISpec)

/-- ITS FALSE NEIGHBOUR: 'it returns false'. Refute it at one input. -/
def fnASCIIWrong : ChangeSpec := { name := "fnASCII", fn := fun _ => fun
  | [d] => { results := [.lit (.bool false)], args := [d] }
  | _ => none }
def FnASCIIWrongFalsely : Prop := fnASCIIRow.holds Try.pinned (OpenSpec.ofChange fnASCIIWrong)

/-- 'laws.FnBack': WHATEVER THE INPUT: true; the input reads as it did. -/
def fnBackSpec : ChangeSpec := { name := "fnBack", fn := fun _ => fun
  | [d] => { results := [.lit (.bool true)], args := [d] }
  | _ => none }
def fnBackRow : OpenClaim := { program := "ytoeaiifmablbnaa", sum := "dd65a17b06941ce15172a53ce3938e642e29586a38bbc507339dbecfe7672cb2", func := "runebarge/laws.FnBack", spec := "fnBack", apart := false }
def FnBackSaid : Prop := fnBackRow.holds Try.pinned (OpenSpec.ofChange fnBackSpec)

/-- ITS FALSE NEIGHBOUR: 'it returns false'. Refute it at one input. -/
def fnBackWrong : ChangeSpec := { name := "fnBack", fn := fun _ => fun
  | [d] => { results := [.lit (.bool false)], args := [d] }
  | _ => none }
def FnBackWrongFalsely : Prop := fnBackRow.holds Try.pinned (OpenSpec.ofChange fnBackWrong)

/-- 'laws.FnOnce': WHATEVER THE INPUT: true; the input reads as it did. -/
def fnOnceSpec : ChangeSpec := { name := "fnOnce", fn := fun _ => fun
  | [d] => { results := [.lit (.bool true)], args := [d] }
  | _ => none }
def fnOnceRow : OpenClaim := { program := "ytoeaiifmablbnaa", sum := "dd65a17b06941ce15172a53ce3938e642e29586a38bbc507339dbecfe7672cb2", func := "runebarge/laws.FnOnce", spec := "fnOnce", apart := false }
def FnOnceSaid : Prop := fnOnceRow.holds Try.pinned (OpenSpec.ofChange fnOnceSpec)

/-- ITS FALSE NEIGHBOUR: 'it returns false'. Refute it at one input. -/
def fnOnceWrong : ChangeSpec := { name := "fnOnce", fn := fun _ => fun
  | [d] => { results := [.lit (.bool false)], args := [d] }
  | _ => none }
def FnOnceWrongFalsely : Prop := fnOnceRow.holds Try.pinned (OpenSpec.ofChange fnOnceWrong)

/-- 'laws.FnPut': WHATEVER THE INPUT: true; the input reads as it did. -/
def fnPutSpec : ChangeSpec := { name := "fnPut", fn := fun _ => fun
  | [d1, d2, d3] => { results := [.lit (.bool true)], args := [d1, d2, d3] }
  | _ => none }
def fnPutRow : OpenClaim := { program := "ytoeaiifmablbnaa", sum := "dd65a17b06941ce15172a53ce3938e642e29586a38bbc507339dbecfe7672cb2", func := "runebarge/laws.FnPut", spec := "fnPut", apart := false }
def FnPutSaid : Prop := fnPutRow.holds Try.pinned (OpenSpec.ofChange fnPutSpec)

/-- ITS FALSE NEIGHBOUR: 'it returns false'. Refute it at one input. -/
def fnPutWrong : ChangeSpec := { name := "fnPut", fn := fun _ => fun
  | [d1, d2, d3] => { results := [.lit (.bool false)], args := [d1, d2, d3] }
  | _ => none }
def FnPutWrongFalsely : Prop := fnPutRow.holds Try.pinned (OpenSpec.ofChange fnPutWrong)

/-- 'laws.FnRun': WHATEVER THE INPUT: true; the input reads as it did. -/
def fnRunSpec : ChangeSpec := { name := "fnRun", fn := fun _ => fun
  | [d1, d2, d3, d4] => { results := [.lit (.bool true)], args := [d1, d2, d3, d4] }
  | _ => none }
def fnRunRow : OpenClaim := { program := "ytoeaiifmablbnaa", sum := "dd65a17b06941ce15172a53ce3938e642e29586a38bbc507339dbecfe7672cb2", func := "runebarge/laws.FnRun", spec := "fnRun", apart := false }
def FnRunSaid : Prop := fnRunRow.holds Try.pinned (OpenSpec.ofChange fnRunSpec)

/-- ITS FALSE NEIGHBOUR: 'it returns false'. Refute it at one input. -/
def fnRunWrong : ChangeSpec := { name := "fnRun", fn := fun _ => fun
  | [d1, d2, d3, d4] => { results := [.lit (.bool false)], args := [d1, d2, d3, d4] }
  | _ => none }
def FnRunWrongFalsely : Prop := fnRunRow.holds Try.pinned (OpenSpec.ofChange fnRunWrong)

/- THE SECOND FORM. 'bulk': how many values and letters a reading holds, each counted each time it is reached (what is shared counts as often as it is met; a slice's spare places count too). A statement '..UptoSaid' is the law's where the arguments, and the package variables that the reading takes, are together of bulk at most 1048576: NARROWER than '..Said'. Prove '..Said' where nothing that the law and all that it calls make is longer than what came in: it says more and counts as full. Else prove '..UptoSaid'. A law counts once. -/
mutual
def uptoBulk {H : Type} : DataW H → Nat
  | .lit (.string bytes) => bytes.length + 1
  | .lit _ => 1
  | .nil => 1
  | .ptr d => uptoBulk d + 1
  | .slice elems spare => uptoBulkAll elems + uptoBulkAll spare + 1
  | .agg parts => uptoBulkAll parts + 1
  | .iface _ d => uptoBulk d + 1
  | .map entries => uptoBulkEntries entries + 1
  | .held _ => 1
def uptoBulkAll {H : Type} : List (DataW H) → Nat
  | [] => 0
  | d :: r => uptoBulk d + uptoBulkAll r
def uptoBulkEntries {H : Type} : List (Lit × DataW H) → Nat
  | [] => 0
  | x :: r => uptoBulkEntry x + uptoBulkEntries r
def uptoBulkEntry {H : Type} : Lit × DataW H → Nat
  | (.string bytes, d) => bytes.length + uptoBulk d + 1
  | (_, d) => uptoBulk d + 1
 end
def uptoSmall : (H : Type) → List (DataW H) → Bool := fun _ ds => decide (uptoBulkAll ds ≤ 1048576)
def OpenSpec.upto (s : _root_.Go.ChangeSpec) : _root_.Go.OpenSpec := { _root_.Go.OpenSpec.ofChange s with cond := some uptoSmall }

/-- 'laws.FnASCIIOnly', WHERE WHAT IT READS IS OF BULK AT MOST 1048576: true; the input reads as it did. -/
def fnASCIIOnlyUptoRow : OpenClaim := { program := "ytoeaiifmablbnaa", sum := "dd65a17b06941ce15172a53ce3938e642e29586a38bbc507339dbecfe7672cb2", func := "runebarge/laws.FnASCIIOnly", spec := "fnASCIIOnly", apart := false, narrowed := true }
def FnASCIIOnlyUptoSaid : Prop := fnASCIIOnlyUptoRow.holds Try.pinned (OpenSpec.upto fnASCIIOnlySpec)

/-- 'laws.FnApart', WHERE WHAT IT READS IS OF BULK AT MOST 1048576: true; the input reads as it did. -/
def fnApartUptoRow : OpenClaim := { program := "ytoeaiifmablbnaa", sum := "dd65a17b06941ce15172a53ce3938e642e29586a38bbc507339dbecfe7672cb2", func := "runebarge/laws.FnApart", spec := "fnApart", apart := false, narrowed := true }
def FnApartUptoSaid : Prop := fnApartUptoRow.holds Try.pinned (OpenSpec.upto fnApartSpec)

/-- 'laws.FnEncode', WHERE WHAT IT READS IS OF BULK AT MOST 1048576: true; the input reads as it did. -/
def fnEncodeUptoRow : OpenClaim := { program := "ytoeaiifmablbnaa", sum := "dd65a17b06941ce15172a53ce3938e642e29586a38bbc507339dbecfe7672cb2", func := "runebarge/laws.FnEncode", spec := "fnEncode", apart := false, narrowed := true }
def FnEncodeUptoSaid : Prop := fnEncodeUptoRow.holds Try.pinned (OpenSpec.upto fnEncodeSpec)

/-- 'laws.FnPrefix', WHERE WHAT IT READS IS OF BULK AT MOST 1048576: true; the input reads as it did. -/
def fnPrefixUptoRow : OpenClaim := { program := "ytoeaiifmablbnaa", sum := "dd65a17b06941ce15172a53ce3938e642e29586a38bbc507339dbecfe7672cb2", func := "runebarge/laws.FnPrefix", spec := "fnPrefix", apart := false, narrowed := true }
def FnPrefixUptoSaid : Prop := fnPrefixUptoRow.holds Try.pinned (OpenSpec.upto fnPrefixSpec)

/-- 'laws.FnCase', WHERE WHAT IT READS IS OF BULK AT MOST 1048576: true; the input reads as it did. -/
def fnCaseUptoRow : OpenClaim := { program := "ytoeaiifmablbnaa", sum := "dd65a17b06941ce15172a53ce3938e642e29586a38bbc507339dbecfe7672cb2", func := "runebarge/laws.FnCase", spec := "fnCase", apart := false, narrowed := true }
def FnCaseUptoSaid : Prop := fnCaseUptoRow.holds Try.pinned (OpenSpec.upto fnCaseSpec)

/-- 'laws.FnDecode', WHERE WHAT IT READS IS OF BULK AT MOST 1048576: true; the input reads as it did. -/
def fnDecodeUptoRow : OpenClaim := { program := "ytoeaiifmablbnaa", sum := "dd65a17b06941ce15172a53ce3938e642e29586a38bbc507339dbecfe7672cb2", func := "runebarge/laws.FnDecode", spec := "fnDecode", apart := false, narrowed := true }
def FnDecodeUptoSaid : Prop := fnDecodeUptoRow.holds Try.pinned (OpenSpec.upto fnDecodeSpec)

/-- 'laws.FnLess', WHERE WHAT IT READS IS OF BULK AT MOST 1048576: true; the input reads as it did. -/
def fnLessUptoRow : OpenClaim := { program := "ytoeaiifmablbnaa", sum := "dd65a17b06941ce15172a53ce3938e642e29586a38bbc507339dbecfe7672cb2", func := "runebarge/laws.FnLess", spec := "fnLess", apart := false, narrowed := true }
def FnLessUptoSaid : Prop := fnLessUptoRow.holds Try.pinned (OpenSpec.upto fnLessSpec)

/-- 'laws.FnNoDigit', WHERE WHAT IT READS IS OF BULK AT MOST 1048576: true; the input reads as it did. -/
def fnNoDigitUptoRow : OpenClaim := { program := "ytoeaiifmablbnaa", sum := "dd65a17b06941ce15172a53ce3938e642e29586a38bbc507339dbecfe7672cb2", func := "runebarge/laws.FnNoDigit", spec := "fnNoDigit", apart := false, narrowed := true }
def FnNoDigitUptoSaid : Prop := fnNoDigitUptoRow.holds Try.pinned (OpenSpec.upto fnNoDigitSpec)

/-- 'laws.FnASCII', WHERE WHAT IT READS IS OF BULK AT MOST 1048576: true; the input reads as it did. -/
def fnASCIIUptoRow : OpenClaim := { program := "ytoeaiifmablbnaa", sum := "dd65a17b06941ce15172a53ce3938e642e29586a38bbc507339dbecfe7672cb2", func := "runebarge/laws.FnASCII", spec := "fnASCII", apart := false, narrowed := true }
def FnASCIIUptoSaid : Prop := fnASCIIUptoRow.holds Try.pinned (OpenSpec.upto fnASCIISpec)

/-- 'laws.FnBack', WHERE WHAT IT READS IS OF BULK AT MOST 1048576: true; the input reads as it did. -/
def fnBackUptoRow : OpenClaim := { program := "ytoeaiifmablbnaa", sum := "dd65a17b06941ce15172a53ce3938e642e29586a38bbc507339dbecfe7672cb2", func := "runebarge/laws.FnBack", spec := "fnBack", apart := false, narrowed := true }
def FnBackUptoSaid : Prop := fnBackUptoRow.holds Try.pinned (OpenSpec.upto fnBackSpec)

/-- 'laws.FnOnce', WHERE WHAT IT READS IS OF BULK AT MOST 1048576: true; the input reads as it did. -/
def fnOnceUptoRow : OpenClaim := { program := "ytoeaiifmablbnaa", sum := "dd65a17b06941ce15172a53ce3938e642e29586a38bbc507339dbecfe7672cb2", func := "runebarge/laws.FnOnce", spec := "fnOnce", apart := false, narrowed := true }
def FnOnceUptoSaid : Prop := fnOnceUptoRow.holds Try.pinned (OpenSpec.upto fnOnceSpec)

/-- 'laws.FnPut', WHERE WHAT IT READS IS OF BULK AT MOST 1048576: true; the input reads as it did. -/
def fnPutUptoRow : OpenClaim := { program := "ytoeaiifmablbnaa", sum := "dd65a17b06941ce15172a53ce3938e642e29586a38bbc507339dbecfe7672cb2", func := "runebarge/laws.FnPut", spec := "fnPut", apart := false, narrowed := true }
def FnPutUptoSaid : Prop := fnPutUptoRow.holds Try.pinned (OpenSpec.upto fnPutSpec)

/-- 'laws.FnRun', WHERE WHAT IT READS IS OF BULK AT MOST 1048576: true; the input reads as it did. -/
def fnRunUptoRow : OpenClaim := { program := "ytoeaiifmablbnaa", sum := "dd65a17b06941ce15172a53ce3938e642e29586a38bbc507339dbecfe7672cb2", func := "runebarge/laws.FnRun", spec := "fnRun", apart := false, narrowed := true }
def FnRunUptoSaid : Prop := fnRunUptoRow.holds Try.pinned (OpenSpec.upto fnRunSpec)

end Rows
end Go.Proofs.Ytoeaiifmablbnaa
