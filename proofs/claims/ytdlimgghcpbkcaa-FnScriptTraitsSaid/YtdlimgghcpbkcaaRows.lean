/-
  No cell of these rows narrows 'for every input' (looked for: loops, veiled, ifaces, maps, wideKeys, modest, calm, conditions, laid).
  DERIVED. THE GIVEN ROWS OF THIS SEAT. 5 by the template 'for every input the law returns true; each argument reads behind the call as it read before'; 0 by the template 'total and deterministic' (their statements: YtdlimgghcpbkcaaTotals.lean).
  GIVEN WITH THE SEED: the statements are not yours to turn. If you find one false, say at which input.
  Laid BY PROGRAM, IN A SANDBOX (cutbox-rows.mjs): the forced cells as the released guide's own fill.sh prints them over the translation f727c40da3db48d8… (all of the seat's roots in one cut). By AI agents, Wed Nov 11 2026. No macro, syntax, notation, axiom, sorry.
-/
import Derived.Test.YtdlimgghcpbkcaaChecked
import GoSem.Claim
import GoSem.ClaimJoined
import GoSem.ClaimMapViews
import Derived.JoinedTies
import Derived.KernelRfl
namespace Go.Proofs.Ytdlimgghcpbkcaa
/- THE CELL 'sum', in the pinned program and in every row, IS THE sha256 OF THE DUMP (.gsa) THAT YtdlimgghcpbkcaaProg.lean LOADS. Nothing in Lean hashes anything: it is a label: what it is worth is what the hold of that sum in a sandbox is worth. -/
noncomputable def Try.pinned : Pinned := { name := "ytdlimgghcpbkcaa", sum := "f727c40da3db48d854d9db24cc4a63e1e95bdfa67d356d829a6160dcfa147863", checked := Try.checked }
namespace Rows
def none {H : Type} : Left H := { results := [], args := [] }

/-- 'laws.FnReadLineBack': WHATEVER THE INPUT: true; the input reads as it did. -/
def fnReadLineBackSpec : ChangeSpec := { name := "fnReadLineBack", fn := fun _ => fun
  | [d1, d2, d3, d4] => { results := [.lit (.bool true)], args := [d1, d2, d3, d4] }
  | _ => none }
def fnReadLineBackRow : OpenClaim := { program := "ytdlimgghcpbkcaa", sum := "f727c40da3db48d854d9db24cc4a63e1e95bdfa67d356d829a6160dcfa147863", func := "pub-teleprinter/laws.FnReadLineBack", spec := "fnReadLineBack", unfollowed := true, recurses := true, apart := false }
def FnReadLineBackSaid : Prop := fnReadLineBackRow.holds Try.pinned (OpenSpec.ofChange fnReadLineBackSpec)

/-- ITS FALSE NEIGHBOUR: 'it returns false'. Refute it at one input. -/
def fnReadLineBackWrong : ChangeSpec := { name := "fnReadLineBack", fn := fun _ => fun
  | [d1, d2, d3, d4] => { results := [.lit (.bool false)], args := [d1, d2, d3, d4] }
  | _ => none }
def FnReadLineBackWrongFalsely : Prop := fnReadLineBackRow.holds Try.pinned (OpenSpec.ofChange fnReadLineBackWrong)

/-- 'laws.FnSHA1': WHATEVER THE INPUT: true; the input reads as it did. -/
def fnSHA1Spec : ChangeSpec := { name := "fnSHA1", fn := fun _ => fun
  | [d] => { results := [.lit (.bool true)], args := [d] }
  | _ => none }
def fnSHA1Row : OpenClaim := { program := "ytdlimgghcpbkcaa", sum := "f727c40da3db48d854d9db24cc4a63e1e95bdfa67d356d829a6160dcfa147863", func := "pub-teleprinter/laws.FnSHA1", spec := "fnSHA1", unfollowed := true, recurses := true, apart := false }
def FnSHA1Said : Prop := fnSHA1Row.holds Try.pinned (OpenSpec.ofChange fnSHA1Spec)

/-- ITS FALSE NEIGHBOUR: 'it returns false'. Refute it at one input. -/
def fnSHA1Wrong : ChangeSpec := { name := "fnSHA1", fn := fun _ => fun
  | [d] => { results := [.lit (.bool false)], args := [d] }
  | _ => none }
def FnSHA1WrongFalsely : Prop := fnSHA1Row.holds Try.pinned (OpenSpec.ofChange fnSHA1Wrong)

/-- 'laws.FnScriptSum': WHATEVER THE INPUT: true; the input reads as it did. -/
def fnScriptSumSpec : ChangeSpec := { name := "fnScriptSum", fn := fun _ => fun
  | [d] => { results := [.lit (.bool true)], args := [d] }
  | _ => none }
def fnScriptSumRow : OpenClaim := { program := "ytdlimgghcpbkcaa", sum := "f727c40da3db48d854d9db24cc4a63e1e95bdfa67d356d829a6160dcfa147863", func := "pub-teleprinter/laws.FnScriptSum", spec := "fnScriptSum", unfollowed := true, recurses := true, apart := false }
def FnScriptSumSaid : Prop := fnScriptSumRow.holds Try.pinned (OpenSpec.ofChange fnScriptSumSpec)

/-- ITS FALSE NEIGHBOUR: 'it returns false'. Refute it at one input. -/
def fnScriptSumWrong : ChangeSpec := { name := "fnScriptSum", fn := fun _ => fun
  | [d] => { results := [.lit (.bool false)], args := [d] }
  | _ => none }
def FnScriptSumWrongFalsely : Prop := fnScriptSumRow.holds Try.pinned (OpenSpec.ofChange fnScriptSumWrong)

/-- 'laws.FnScriptTraits': WHATEVER THE INPUT: true; the input reads as it did. -/
def fnScriptTraitsSpec : ChangeSpec := { name := "fnScriptTraits", fn := fun _ => fun
  | [d1, d2] => { results := [.lit (.bool true)], args := [d1, d2] }
  | _ => none }
def fnScriptTraitsRow : OpenClaim := { program := "ytdlimgghcpbkcaa", sum := "f727c40da3db48d854d9db24cc4a63e1e95bdfa67d356d829a6160dcfa147863", func := "pub-teleprinter/laws.FnScriptTraits", spec := "fnScriptTraits", unfollowed := true, recurses := true, apart := false }
def FnScriptTraitsSaid : Prop := fnScriptTraitsRow.holds Try.pinned (OpenSpec.ofChange fnScriptTraitsSpec)

/-- ITS FALSE NEIGHBOUR: 'it returns false'. Refute it at one input. -/
def fnScriptTraitsWrong : ChangeSpec := { name := "fnScriptTraits", fn := fun _ => fun
  | [d1, d2] => { results := [.lit (.bool false)], args := [d1, d2] }
  | _ => none }
def FnScriptTraitsWrongFalsely : Prop := fnScriptTraitsRow.holds Try.pinned (OpenSpec.ofChange fnScriptTraitsWrong)

/-- 'laws.FnRawWrite': WHATEVER THE INPUT: true; the input reads as it did. -/
def fnRawWriteSpec : ChangeSpec := { name := "fnRawWrite", fn := fun _ => fun
  | [d] => { results := [.lit (.bool true)], args := [d] }
  | _ => none }
def fnRawWriteRow : OpenClaim := { program := "ytdlimgghcpbkcaa", sum := "f727c40da3db48d854d9db24cc4a63e1e95bdfa67d356d829a6160dcfa147863", func := "pub-teleprinter/laws.FnRawWrite", spec := "fnRawWrite", unfollowed := true, recurses := true, apart := false }
def FnRawWriteSaid : Prop := fnRawWriteRow.holds Try.pinned (OpenSpec.ofChange fnRawWriteSpec)

/-- ITS FALSE NEIGHBOUR: 'it returns false'. Refute it at one input. -/
def fnRawWriteWrong : ChangeSpec := { name := "fnRawWrite", fn := fun _ => fun
  | [d] => { results := [.lit (.bool false)], args := [d] }
  | _ => none }
def FnRawWriteWrongFalsely : Prop := fnRawWriteRow.holds Try.pinned (OpenSpec.ofChange fnRawWriteWrong)

/- THE SECOND FORM. 'bulk': how many values and letters a reading holds, each counted each time it is reached (what is shared counts as often as it is met; a slice's spare places count too). A statement '..UptoSaid' is the law's where the arguments, and the package variables that the reading takes, are together of bulk at most 1048576: NARROWER than '..Said'. Prove '..Said' where nothing that the law and all that it calls make is longer than what came in: it says more and counts as full. Else prove '..UptoSaid'. A law counts once. -/
mutual
def uptoBulk {H : Type} : DataW H → Nat
  | .lit (.string bytes) => bytes.length + 1
  | .lit _ => 1
  | .nil => 1
  | .ptr d => uptoBulk d + 1
  | .slice elems spare => uptoBulkAll elems + uptoBulkAll spare + 1
  | .agg parts => uptoBulkAll parts + 1
  | .iface _ d => uptoBulk d + 1
  | .map entries => uptoBulkEntries entries + 1
  | .held _ => 1
def uptoBulkAll {H : Type} : List (DataW H) → Nat
  | [] => 0
  | d :: r => uptoBulk d + uptoBulkAll r
def uptoBulkEntries {H : Type} : List (Lit × DataW H) → Nat
  | [] => 0
  | x :: r => uptoBulkEntry x + uptoBulkEntries r
def uptoBulkEntry {H : Type} : Lit × DataW H → Nat
  | (.string bytes, d) => bytes.length + uptoBulk d + 1
  | (_, d) => uptoBulk d + 1
 end
def uptoSmall : (H : Type) → List (DataW H) → Bool := fun _ ds => decide (uptoBulkAll ds ≤ 1048576)
def OpenSpec.upto (s : _root_.Go.ChangeSpec) : _root_.Go.OpenSpec := { _root_.Go.OpenSpec.ofChange s with cond := some uptoSmall }

/-- 'laws.FnReadLineBack', WHERE WHAT IT READS IS OF BULK AT MOST 1048576: true; the input reads as it did. -/
def fnReadLineBackUptoRow : OpenClaim := { program := "ytdlimgghcpbkcaa", sum := "f727c40da3db48d854d9db24cc4a63e1e95bdfa67d356d829a6160dcfa147863", func := "pub-teleprinter/laws.FnReadLineBack", spec := "fnReadLineBack", unfollowed := true, recurses := true, apart := false, narrowed := true }
def FnReadLineBackUptoSaid : Prop := fnReadLineBackUptoRow.holds Try.pinned (OpenSpec.upto fnReadLineBackSpec)

/-- 'laws.FnSHA1', WHERE WHAT IT READS IS OF BULK AT MOST 1048576: true; the input reads as it did. -/
def fnSHA1UptoRow : OpenClaim := { program := "ytdlimgghcpbkcaa", sum := "f727c40da3db48d854d9db24cc4a63e1e95bdfa67d356d829a6160dcfa147863", func := "pub-teleprinter/laws.FnSHA1", spec := "fnSHA1", unfollowed := true, recurses := true, apart := false, narrowed := true }
def FnSHA1UptoSaid : Prop := fnSHA1UptoRow.holds Try.pinned (OpenSpec.upto fnSHA1Spec)

/-- 'laws.FnScriptSum', WHERE WHAT IT READS IS OF BULK AT MOST 1048576: true; the input reads as it did. -/
def fnScriptSumUptoRow : OpenClaim := { program := "ytdlimgghcpbkcaa", sum := "f727c40da3db48d854d9db24cc4a63e1e95bdfa67d356d829a6160dcfa147863", func := "pub-teleprinter/laws.FnScriptSum", spec := "fnScriptSum", unfollowed := true, recurses := true, apart := false, narrowed := true }
def FnScriptSumUptoSaid : Prop := fnScriptSumUptoRow.holds Try.pinned (OpenSpec.upto fnScriptSumSpec)

/-- 'laws.FnScriptTraits', WHERE WHAT IT READS IS OF BULK AT MOST 1048576: true; the input reads as it did. -/
def fnScriptTraitsUptoRow : OpenClaim := { program := "ytdlimgghcpbkcaa", sum := "f727c40da3db48d854d9db24cc4a63e1e95bdfa67d356d829a6160dcfa147863", func := "pub-teleprinter/laws.FnScriptTraits", spec := "fnScriptTraits", unfollowed := true, recurses := true, apart := false, narrowed := true }
def FnScriptTraitsUptoSaid : Prop := fnScriptTraitsUptoRow.holds Try.pinned (OpenSpec.upto fnScriptTraitsSpec)

/-- 'laws.FnRawWrite', WHERE WHAT IT READS IS OF BULK AT MOST 1048576: true; the input reads as it did. -/
def fnRawWriteUptoRow : OpenClaim := { program := "ytdlimgghcpbkcaa", sum := "f727c40da3db48d854d9db24cc4a63e1e95bdfa67d356d829a6160dcfa147863", func := "pub-teleprinter/laws.FnRawWrite", spec := "fnRawWrite", unfollowed := true, recurses := true, apart := false, narrowed := true }
def FnRawWriteUptoSaid : Prop := fnRawWriteUptoRow.holds Try.pinned (OpenSpec.upto fnRawWriteSpec)

end Rows
end Go.Proofs.Ytdlimgghcpbkcaa
