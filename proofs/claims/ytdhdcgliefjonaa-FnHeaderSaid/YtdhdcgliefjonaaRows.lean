/-
  No cell of these rows narrows 'for every input' (looked for: loops, veiled, ifaces, maps, wideKeys, modest, calm, conditions, laid).
  DERIVED. THE GIVEN ROWS OF THIS SEAT. 7 by the template 'for every input the law returns true; each argument reads behind the call as it read before'; 0 by the template 'total and deterministic' (their statements: YtdhdcgliefjonaaTotals.lean).
  GIVEN WITH THE SEED: the statements are not yours to turn. If you find one false, say at which input.
  Laid BY PROGRAM, IN A SANDBOX (cutbox-rows.mjs): the forced cells as the released guide's own fill.sh prints them over the translation 8e4dcefee8e4acd7… (all of the seat's roots in one cut). By AI agents, Wed Nov 11 2026. No macro, syntax, notation, axiom, sorry.
-/
import Derived.Test.YtdhdcgliefjonaaChecked
import GoSem.Claim
import GoSem.ClaimJoined
import GoSem.ClaimMapViews
import Derived.JoinedTies
import Derived.KernelRfl
namespace Go.Proofs.Ytdhdcgliefjonaa
/- THE CELL 'sum', in the pinned program and in every row, IS THE sha256 OF THE DUMP (.gsa) THAT YtdhdcgliefjonaaProg.lean LOADS. Nothing in Lean hashes anything: it is a label: what it is worth is what the hold of that sum in a sandbox is worth. -/
noncomputable def Try.pinned : Pinned := { name := "ytdhdcgliefjonaa", sum := "8e4dcefee8e4acd769d8ac3b853ea29ab3727e8a155eca0888053597c99055e3", checked := Try.checked }
namespace Rows
def none {H : Type} : Left H := { results := [], args := [] }

/-- 'laws.FnTrimmed': WHATEVER THE INPUT: true; the input reads as it did. -/
def fnTrimmedSpec : ChangeSpec := { name := "fnTrimmed", fn := fun _ => fun
  | [d] => { results := [.lit (.bool true)], args := [d] }
  | _ => none }
def fnTrimmedRow : OpenClaim := { program := "ytdhdcgliefjonaa", sum := "8e4dcefee8e4acd769d8ac3b853ea29ab3727e8a155eca0888053597c99055e3", func := "protocollines/laws.FnTrimmed", spec := "fnTrimmed", apart := false }
def FnTrimmedSaid : Prop := fnTrimmedRow.holds Try.pinned (OpenSpec.ofChange fnTrimmedSpec)

/-- ITS FALSE NEIGHBOUR: 'it returns false'. Refute it at one input. -/
def fnTrimmedWrong : ChangeSpec := { name := "fnTrimmed", fn := fun _ => fun
  | [d] => { results := [.lit (.bool false)], args := [d] }
  | _ => none }
def FnTrimmedWrongFalsely : Prop := fnTrimmedRow.holds Try.pinned (OpenSpec.ofChange fnTrimmedWrong)

/-- 'laws.FnValueByte': WHATEVER THE INPUT: true; the input reads as it did. -/
def fnValueByteSpec : ChangeSpec := { name := "fnValueByte", fn := fun _ => fun
  | [d] => { results := [.lit (.bool true)], args := [d] }
  | _ => none }
def fnValueByteRow : OpenClaim := { program := "ytdhdcgliefjonaa", sum := "8e4dcefee8e4acd769d8ac3b853ea29ab3727e8a155eca0888053597c99055e3", func := "protocollines/laws.FnValueByte", spec := "fnValueByte", apart := false }
def FnValueByteSaid : Prop := fnValueByteRow.holds Try.pinned (OpenSpec.ofChange fnValueByteSpec)

/-- ITS FALSE NEIGHBOUR: 'it returns false'. Refute it at one input. -/
def fnValueByteWrong : ChangeSpec := { name := "fnValueByte", fn := fun _ => fun
  | [d] => { results := [.lit (.bool false)], args := [d] }
  | _ => none }
def FnValueByteWrongFalsely : Prop := fnValueByteRow.holds Try.pinned (OpenSpec.ofChange fnValueByteWrong)

/-- 'laws.FnFieldByte': WHATEVER THE INPUT: true; the input reads as it did. -/
def fnFieldByteSpec : ChangeSpec := { name := "fnFieldByte", fn := fun _ => fun
  | [d] => { results := [.lit (.bool true)], args := [d] }
  | _ => none }
def fnFieldByteRow : OpenClaim := { program := "ytdhdcgliefjonaa", sum := "8e4dcefee8e4acd769d8ac3b853ea29ab3727e8a155eca0888053597c99055e3", func := "protocollines/laws.FnFieldByte", spec := "fnFieldByte", apart := false }
def FnFieldByteSaid : Prop := fnFieldByteRow.holds Try.pinned (OpenSpec.ofChange fnFieldByteSpec)

/-- ITS FALSE NEIGHBOUR: 'it returns false'. Refute it at one input. -/
def fnFieldByteWrong : ChangeSpec := { name := "fnFieldByte", fn := fun _ => fun
  | [d] => { results := [.lit (.bool false)], args := [d] }
  | _ => none }
def FnFieldByteWrongFalsely : Prop := fnFieldByteRow.holds Try.pinned (OpenSpec.ofChange fnFieldByteWrong)

/-- 'laws.FnKeyOfLine': WHATEVER THE INPUT: true; the input reads as it did. -/
def fnKeyOfLineSpec : ChangeSpec := { name := "fnKeyOfLine", fn := fun _ => fun
  | [d] => { results := [.lit (.bool true)], args := [d] }
  | _ => none }
def fnKeyOfLineRow : OpenClaim := { program := "ytdhdcgliefjonaa", sum := "8e4dcefee8e4acd769d8ac3b853ea29ab3727e8a155eca0888053597c99055e3", func := "protocollines/laws.FnKeyOfLine", spec := "fnKeyOfLine", apart := false }
def FnKeyOfLineSaid : Prop := fnKeyOfLineRow.holds Try.pinned (OpenSpec.ofChange fnKeyOfLineSpec)

/-- ITS FALSE NEIGHBOUR: 'it returns false'. Refute it at one input. -/
def fnKeyOfLineWrong : ChangeSpec := { name := "fnKeyOfLine", fn := fun _ => fun
  | [d] => { results := [.lit (.bool false)], args := [d] }
  | _ => none }
def FnKeyOfLineWrongFalsely : Prop := fnKeyOfLineRow.holds Try.pinned (OpenSpec.ofChange fnKeyOfLineWrong)

/-- 'laws.FnCanonical': WHATEVER THE INPUT: true; the input reads as it did. -/
def fnCanonicalSpec : ChangeSpec := { name := "fnCanonical", fn := fun _ => fun
  | [d] => { results := [.lit (.bool true)], args := [d] }
  | _ => none }
def fnCanonicalRow : OpenClaim := { program := "ytdhdcgliefjonaa", sum := "8e4dcefee8e4acd769d8ac3b853ea29ab3727e8a155eca0888053597c99055e3", func := "protocollines/laws.FnCanonical", spec := "fnCanonical", apart := false }
def FnCanonicalSaid : Prop := fnCanonicalRow.holds Try.pinned (OpenSpec.ofChange fnCanonicalSpec)

/-- ITS FALSE NEIGHBOUR: 'it returns false'. Refute it at one input. -/
def fnCanonicalWrong : ChangeSpec := { name := "fnCanonical", fn := fun _ => fun
  | [d] => { results := [.lit (.bool false)], args := [d] }
  | _ => none }
def FnCanonicalWrongFalsely : Prop := fnCanonicalRow.holds Try.pinned (OpenSpec.ofChange fnCanonicalWrong)

/-- 'laws.FnCanonicalTwice': WHATEVER THE INPUT: true; the input reads as it did. -/
def fnCanonicalTwiceSpec : ChangeSpec := { name := "fnCanonicalTwice", fn := fun _ => fun
  | [d] => { results := [.lit (.bool true)], args := [d] }
  | _ => none }
def fnCanonicalTwiceRow : OpenClaim := { program := "ytdhdcgliefjonaa", sum := "8e4dcefee8e4acd769d8ac3b853ea29ab3727e8a155eca0888053597c99055e3", func := "protocollines/laws.FnCanonicalTwice", spec := "fnCanonicalTwice", apart := false }
def FnCanonicalTwiceSaid : Prop := fnCanonicalTwiceRow.holds Try.pinned (OpenSpec.ofChange fnCanonicalTwiceSpec)

/-- ITS FALSE NEIGHBOUR: 'it returns false'. Refute it at one input. -/
def fnCanonicalTwiceWrong : ChangeSpec := { name := "fnCanonicalTwice", fn := fun _ => fun
  | [d] => { results := [.lit (.bool false)], args := [d] }
  | _ => none }
def FnCanonicalTwiceWrongFalsely : Prop := fnCanonicalTwiceRow.holds Try.pinned (OpenSpec.ofChange fnCanonicalTwiceWrong)

/-- 'laws.FnHeader': WHATEVER THE INPUT: true; the input reads as it did. -/
def fnHeaderSpec : ChangeSpec := { name := "fnHeader", fn := fun _ => fun
  | [d] => { results := [.lit (.bool true)], args := [d] }
  | _ => none }
def fnHeaderRow : OpenClaim := { program := "ytdhdcgliefjonaa", sum := "8e4dcefee8e4acd769d8ac3b853ea29ab3727e8a155eca0888053597c99055e3", func := "protocollines/laws.FnHeader", spec := "fnHeader", apart := false }
def FnHeaderSaid : Prop := fnHeaderRow.holds Try.pinned (OpenSpec.ofChange fnHeaderSpec)

/-- ITS FALSE NEIGHBOUR: 'it returns false'. Refute it at one input. -/
def fnHeaderWrong : ChangeSpec := { name := "fnHeader", fn := fun _ => fun
  | [d] => { results := [.lit (.bool false)], args := [d] }
  | _ => none }
def FnHeaderWrongFalsely : Prop := fnHeaderRow.holds Try.pinned (OpenSpec.ofChange fnHeaderWrong)

/- THE SECOND FORM. 'bulk': how many values and letters a reading holds, each counted each time it is reached (what is shared counts as often as it is met; a slice's spare places count too). A statement '..UptoSaid' is the law's where the arguments, and the package variables that the reading takes, are together of bulk at most 1048576: NARROWER than '..Said'. Prove '..Said' where nothing that the law and all that it calls make is longer than what came in: it says more and counts as full. Else prove '..UptoSaid'. A law counts once. -/
mutual
def uptoBulk {H : Type} : DataW H → Nat
  | .lit (.string bytes) => bytes.length + 1
  | .lit _ => 1
  | .nil => 1
  | .ptr d => uptoBulk d + 1
  | .slice elems spare => uptoBulkAll elems + uptoBulkAll spare + 1
  | .agg parts => uptoBulkAll parts + 1
  | .iface _ d => uptoBulk d + 1
  | .map entries => uptoBulkEntries entries + 1
  | .held _ => 1
def uptoBulkAll {H : Type} : List (DataW H) → Nat
  | [] => 0
  | d :: r => uptoBulk d + uptoBulkAll r
def uptoBulkEntries {H : Type} : List (Lit × DataW H) → Nat
  | [] => 0
  | x :: r => uptoBulkEntry x + uptoBulkEntries r
def uptoBulkEntry {H : Type} : Lit × DataW H → Nat
  | (.string bytes, d) => bytes.length + uptoBulk d + 1
  | (_, d) => uptoBulk d + 1
 end
def uptoSmall : (H : Type) → List (DataW H) → Bool := fun _ ds => decide (uptoBulkAll ds ≤ 1048576)
def OpenSpec.upto (s : _root_.Go.ChangeSpec) : _root_.Go.OpenSpec := { _root_.Go.OpenSpec.ofChange s with cond := some uptoSmall }

/-- 'laws.FnTrimmed', WHERE WHAT IT READS IS OF BULK AT MOST 1048576: true; the input reads as it did. -/
def fnTrimmedUptoRow : OpenClaim := { program := "ytdhdcgliefjonaa", sum := "8e4dcefee8e4acd769d8ac3b853ea29ab3727e8a155eca0888053597c99055e3", func := "protocollines/laws.FnTrimmed", spec := "fnTrimmed", apart := false, narrowed := true }
def FnTrimmedUptoSaid : Prop := fnTrimmedUptoRow.holds Try.pinned (OpenSpec.upto fnTrimmedSpec)

/-- 'laws.FnValueByte', WHERE WHAT IT READS IS OF BULK AT MOST 1048576: true; the input reads as it did. -/
def fnValueByteUptoRow : OpenClaim := { program := "ytdhdcgliefjonaa", sum := "8e4dcefee8e4acd769d8ac3b853ea29ab3727e8a155eca0888053597c99055e3", func := "protocollines/laws.FnValueByte", spec := "fnValueByte", apart := false, narrowed := true }
def FnValueByteUptoSaid : Prop := fnValueByteUptoRow.holds Try.pinned (OpenSpec.upto fnValueByteSpec)

/-- 'laws.FnFieldByte', WHERE WHAT IT READS IS OF BULK AT MOST 1048576: true; the input reads as it did. -/
def fnFieldByteUptoRow : OpenClaim := { program := "ytdhdcgliefjonaa", sum := "8e4dcefee8e4acd769d8ac3b853ea29ab3727e8a155eca0888053597c99055e3", func := "protocollines/laws.FnFieldByte", spec := "fnFieldByte", apart := false, narrowed := true }
def FnFieldByteUptoSaid : Prop := fnFieldByteUptoRow.holds Try.pinned (OpenSpec.upto fnFieldByteSpec)

/-- 'laws.FnKeyOfLine', WHERE WHAT IT READS IS OF BULK AT MOST 1048576: true; the input reads as it did. -/
def fnKeyOfLineUptoRow : OpenClaim := { program := "ytdhdcgliefjonaa", sum := "8e4dcefee8e4acd769d8ac3b853ea29ab3727e8a155eca0888053597c99055e3", func := "protocollines/laws.FnKeyOfLine", spec := "fnKeyOfLine", apart := false, narrowed := true }
def FnKeyOfLineUptoSaid : Prop := fnKeyOfLineUptoRow.holds Try.pinned (OpenSpec.upto fnKeyOfLineSpec)

/-- 'laws.FnCanonical', WHERE WHAT IT READS IS OF BULK AT MOST 1048576: true; the input reads as it did. -/
def fnCanonicalUptoRow : OpenClaim := { program := "ytdhdcgliefjonaa", sum := "8e4dcefee8e4acd769d8ac3b853ea29ab3727e8a155eca0888053597c99055e3", func := "protocollines/laws.FnCanonical", spec := "fnCanonical", apart := false, narrowed := true }
def FnCanonicalUptoSaid : Prop := fnCanonicalUptoRow.holds Try.pinned (OpenSpec.upto fnCanonicalSpec)

/-- 'laws.FnCanonicalTwice', WHERE WHAT IT READS IS OF BULK AT MOST 1048576: true; the input reads as it did. -/
def fnCanonicalTwiceUptoRow : OpenClaim := { program := "ytdhdcgliefjonaa", sum := "8e4dcefee8e4acd769d8ac3b853ea29ab3727e8a155eca0888053597c99055e3", func := "protocollines/laws.FnCanonicalTwice", spec := "fnCanonicalTwice", apart := false, narrowed := true }
def FnCanonicalTwiceUptoSaid : Prop := fnCanonicalTwiceUptoRow.holds Try.pinned (OpenSpec.upto fnCanonicalTwiceSpec)

/-- 'laws.FnHeader', WHERE WHAT IT READS IS OF BULK AT MOST 1048576: true; the input reads as it did. -/
def fnHeaderUptoRow : OpenClaim := { program := "ytdhdcgliefjonaa", sum := "8e4dcefee8e4acd769d8ac3b853ea29ab3727e8a155eca0888053597c99055e3", func := "protocollines/laws.FnHeader", spec := "fnHeader", apart := false, narrowed := true }
def FnHeaderUptoSaid : Prop := fnHeaderUptoRow.holds Try.pinned (OpenSpec.upto fnHeaderSpec)

end Rows
end Go.Proofs.Ytdhdcgliefjonaa
