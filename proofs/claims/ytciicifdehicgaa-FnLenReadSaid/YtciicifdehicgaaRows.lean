/-
  No cell of these rows narrows 'for every input' (looked for: loops, veiled, ifaces, maps, wideKeys, modest, calm, conditions, laid).
  DERIVED. THE GIVEN ROWS OF THIS SEAT. 4 by the template 'for every input the law returns true; each argument reads behind the call as it read before'; 0 by the template 'total and deterministic' (their statements: YtciicifdehicgaaTotals.lean).
  GIVEN WITH THE SEED: the statements are not yours to turn. If you find one false, say at which input.
  Laid BY PROGRAM, IN A SANDBOX (cutbox-rows.mjs): the forced cells as the released guide's own fill.sh prints them over the translation 1369b97173947205… (all of the seat's roots in one cut). By AI agents, Wed Nov 11 2026. No macro, syntax, notation, axiom, sorry.
-/
import Derived.Test.YtciicifdehicgaaChecked
import GoSem.Claim
import GoSem.ClaimJoined
import GoSem.ClaimMapViews
import Derived.JoinedTies
import Derived.KernelRfl
namespace Go.Proofs.Ytciicifdehicgaa
/- THE CELL 'sum', in the pinned program and in every row, IS THE sha256 OF THE DUMP (.gsa) THAT YtciicifdehicgaaProg.lean LOADS. Nothing in Lean hashes anything: it is a label: what it is worth is what the hold of that sum in a sandbox is worth. -/
noncomputable def Try.pinned : Pinned := { name := "ytciicifdehicgaa", sum := "1369b9717394720551457406fcbd3cb25857e38180bf03cd9a627529350bd43f", checked := Try.checked }
namespace Rows
def none {H : Type} : Left H := { results := [], args := [] }

/-- 'laws.FnNanosSteps': WHATEVER THE INPUT: true; the input reads as it did. -/
def fnNanosStepsSpec : ChangeSpec := { name := "fnNanosSteps", fn := fun _ => fun
  | [d1, d2] => { results := [.lit (.bool true)], args := [d1, d2] }
  | _ => none }
def fnNanosStepsRow : OpenClaim := { program := "ytciicifdehicgaa", sum := "1369b9717394720551457406fcbd3cb25857e38180bf03cd9a627529350bd43f", func := "pub-teleprinter/laws.FnNanosSteps", spec := "fnNanosSteps", unfollowed := true, recurses := true, apart := false }
def FnNanosStepsSaid : Prop := fnNanosStepsRow.holds Try.pinned (OpenSpec.ofChange fnNanosStepsSpec)

/-- ITS FALSE NEIGHBOUR: 'it returns false'. Refute it at one input. -/
def fnNanosStepsWrong : ChangeSpec := { name := "fnNanosSteps", fn := fun _ => fun
  | [d1, d2] => { results := [.lit (.bool false)], args := [d1, d2] }
  | _ => none }
def FnNanosStepsWrongFalsely : Prop := fnNanosStepsRow.holds Try.pinned (OpenSpec.ofChange fnNanosStepsWrong)

/-- 'laws.FnPrefixText': WHATEVER THE INPUT: true; the input reads as it did. -/
def fnPrefixTextSpec : ChangeSpec := { name := "fnPrefixText", fn := fun _ => fun
  | [d] => { results := [.lit (.bool true)], args := [d] }
  | _ => none }
def fnPrefixTextRow : OpenClaim := { program := "ytciicifdehicgaa", sum := "1369b9717394720551457406fcbd3cb25857e38180bf03cd9a627529350bd43f", func := "pub-teleprinter/laws.FnPrefixText", spec := "fnPrefixText", apart := false }
def FnPrefixTextSaid : Prop := fnPrefixTextRow.holds Try.pinned (OpenSpec.ofChange fnPrefixTextSpec)

/-- ITS FALSE NEIGHBOUR: 'it returns false'. Refute it at one input. -/
def fnPrefixTextWrong : ChangeSpec := { name := "fnPrefixText", fn := fun _ => fun
  | [d] => { results := [.lit (.bool false)], args := [d] }
  | _ => none }
def FnPrefixTextWrongFalsely : Prop := fnPrefixTextRow.holds Try.pinned (OpenSpec.ofChange fnPrefixTextWrong)

/-- 'laws.FnCRC16': WHATEVER THE INPUT: true; the input reads as it did. -/
def fnCRC16Spec : ChangeSpec := { name := "fnCRC16", fn := fun _ => fun
  | [d] => { results := [.lit (.bool true)], args := [d] }
  | _ => none }
def fnCRC16Row : OpenClaim := { program := "ytciicifdehicgaa", sum := "1369b9717394720551457406fcbd3cb25857e38180bf03cd9a627529350bd43f", func := "pub-teleprinter/laws.FnCRC16", spec := "fnCRC16", apart := false }
def FnCRC16Said : Prop := fnCRC16Row.holds Try.pinned (OpenSpec.ofChange fnCRC16Spec)

/-- ITS FALSE NEIGHBOUR: 'it returns false'. Refute it at one input. -/
def fnCRC16Wrong : ChangeSpec := { name := "fnCRC16", fn := fun _ => fun
  | [d] => { results := [.lit (.bool false)], args := [d] }
  | _ => none }
def FnCRC16WrongFalsely : Prop := fnCRC16Row.holds Try.pinned (OpenSpec.ofChange fnCRC16Wrong)

/-- 'laws.FnLenRead': WHATEVER THE INPUT: true; the input reads as it did. -/
def fnLenReadSpec : ChangeSpec := { name := "fnLenRead", fn := fun _ => fun
  | [d1, d2, d3] => { results := [.lit (.bool true)], args := [d1, d2, d3] }
  | _ => none }
def fnLenReadRow : OpenClaim := { program := "ytciicifdehicgaa", sum := "1369b9717394720551457406fcbd3cb25857e38180bf03cd9a627529350bd43f", func := "pub-teleprinter/laws.FnLenRead", spec := "fnLenRead", unfollowed := true, recurses := true, apart := false }
def FnLenReadSaid : Prop := fnLenReadRow.holds Try.pinned (OpenSpec.ofChange fnLenReadSpec)

/-- ITS FALSE NEIGHBOUR: 'it returns false'. Refute it at one input. -/
def fnLenReadWrong : ChangeSpec := { name := "fnLenRead", fn := fun _ => fun
  | [d1, d2, d3] => { results := [.lit (.bool false)], args := [d1, d2, d3] }
  | _ => none }
def FnLenReadWrongFalsely : Prop := fnLenReadRow.holds Try.pinned (OpenSpec.ofChange fnLenReadWrong)

/- THE SECOND FORM. 'bulk': how many values and letters a reading holds, each counted each time it is reached (what is shared counts as often as it is met; a slice's spare places count too). A statement '..UptoSaid' is the law's where the arguments, and the package variables that the reading takes, are together of bulk at most 1048576: NARROWER than '..Said'. Prove '..Said' where nothing that the law and all that it calls make is longer than what came in: it says more and counts as full. Else prove '..UptoSaid'. A law counts once. -/
mutual
def uptoBulk {H : Type} : DataW H → Nat
  | .lit (.string bytes) => bytes.length + 1
  | .lit _ => 1
  | .nil => 1
  | .ptr d => uptoBulk d + 1
  | .slice elems spare => uptoBulkAll elems + uptoBulkAll spare + 1
  | .agg parts => uptoBulkAll parts + 1
  | .iface _ d => uptoBulk d + 1
  | .map entries => uptoBulkEntries entries + 1
  | .held _ => 1
def uptoBulkAll {H : Type} : List (DataW H) → Nat
  | [] => 0
  | d :: r => uptoBulk d + uptoBulkAll r
def uptoBulkEntries {H : Type} : List (Lit × DataW H) → Nat
  | [] => 0
  | x :: r => uptoBulkEntry x + uptoBulkEntries r
def uptoBulkEntry {H : Type} : Lit × DataW H → Nat
  | (.string bytes, d) => bytes.length + uptoBulk d + 1
  | (_, d) => uptoBulk d + 1
 end
def uptoSmall : (H : Type) → List (DataW H) → Bool := fun _ ds => decide (uptoBulkAll ds ≤ 1048576)
def OpenSpec.upto (s : _root_.Go.ChangeSpec) : _root_.Go.OpenSpec := { _root_.Go.OpenSpec.ofChange s with cond := some uptoSmall }

/-- 'laws.FnNanosSteps', WHERE WHAT IT READS IS OF BULK AT MOST 1048576: true; the input reads as it did. -/
def fnNanosStepsUptoRow : OpenClaim := { program := "ytciicifdehicgaa", sum := "1369b9717394720551457406fcbd3cb25857e38180bf03cd9a627529350bd43f", func := "pub-teleprinter/laws.FnNanosSteps", spec := "fnNanosSteps", unfollowed := true, recurses := true, apart := false, narrowed := true }
def FnNanosStepsUptoSaid : Prop := fnNanosStepsUptoRow.holds Try.pinned (OpenSpec.upto fnNanosStepsSpec)

/-- 'laws.FnPrefixText', WHERE WHAT IT READS IS OF BULK AT MOST 1048576: true; the input reads as it did. -/
def fnPrefixTextUptoRow : OpenClaim := { program := "ytciicifdehicgaa", sum := "1369b9717394720551457406fcbd3cb25857e38180bf03cd9a627529350bd43f", func := "pub-teleprinter/laws.FnPrefixText", spec := "fnPrefixText", apart := false, narrowed := true }
def FnPrefixTextUptoSaid : Prop := fnPrefixTextUptoRow.holds Try.pinned (OpenSpec.upto fnPrefixTextSpec)

/-- 'laws.FnCRC16', WHERE WHAT IT READS IS OF BULK AT MOST 1048576: true; the input reads as it did. -/
def fnCRC16UptoRow : OpenClaim := { program := "ytciicifdehicgaa", sum := "1369b9717394720551457406fcbd3cb25857e38180bf03cd9a627529350bd43f", func := "pub-teleprinter/laws.FnCRC16", spec := "fnCRC16", apart := false, narrowed := true }
def FnCRC16UptoSaid : Prop := fnCRC16UptoRow.holds Try.pinned (OpenSpec.upto fnCRC16Spec)

/-- 'laws.FnLenRead', WHERE WHAT IT READS IS OF BULK AT MOST 1048576: true; the input reads as it did. -/
def fnLenReadUptoRow : OpenClaim := { program := "ytciicifdehicgaa", sum := "1369b9717394720551457406fcbd3cb25857e38180bf03cd9a627529350bd43f", func := "pub-teleprinter/laws.FnLenRead", spec := "fnLenRead", unfollowed := true, recurses := true, apart := false, narrowed := true }
def FnLenReadUptoSaid : Prop := fnLenReadUptoRow.holds Try.pinned (OpenSpec.upto fnLenReadSpec)

end Rows
end Go.Proofs.Ytciicifdehicgaa
