/-
  NARROWER THAN 'FOR EVERY INPUT', by the rows' own cells (each row's printed sentence says how): FnSignHeaders: laid · FnSign: laid · FnSignPage: laid · FnSignReader: laid · FnSignLength: laid.
  DERIVED. THE GIVEN ROWS OF THIS SEAT. 5 by the template 'for every input the law returns true; each argument reads behind the call as it read before'; 0 by the template 'total and deterministic' (their statements: YtodofpjdcongnaaDoorTotals.lean).
  GIVEN WITH THE SEED: the statements are not yours to turn. If you find one false, say at which input.
  Laid BY PROGRAM, IN A SANDBOX (cutbox-rows.mjs): the forced cells as the released guide's own fill.sh prints them over the translation 71e139071ee35bd1… (all of the seat's roots in one cut). By AI agents, Wed Nov 11 2026. No macro, syntax, notation, axiom, sorry.
-/
import Derived.Test.YtodofpjdcongnaaDoorChecked
import GoSem.Claim
import GoSem.ClaimJoined
import GoSem.ClaimMapViews
import Derived.JoinedTies
import Derived.KernelRfl
namespace Go.Proofs.YtodofpjdcongnaaDoor
/- THE CELL 'sum', in the pinned program and in every row, IS THE sha256 OF THE DUMP (.gsa) THAT YtodofpjdcongnaaDoorProg.lean LOADS. Nothing in Lean hashes anything: it is a label: what it is worth is what the hold of that sum in a sandbox is worth. -/
noncomputable def Tryd.pinned : Pinned := { name := "ytodofpjdcongnaadoor", sum := "71e139071ee35bd17ac8850e92442543cb6ccc39b4dcdaab7bcb20a5b5d2cd44", checked := Tryd.checked }
namespace Rows
def none {H : Type} : Left H := { results := [], args := [] }

/- WHAT THE LISTED PACKAGE-LEVEL VARIABLES READ AS WHEN THE CALL BEGINS. Each datum BY PROGRAM (the guide's laid-datum.mjs) off the statement by which the dump's own 'gosem.cut.vars' lays the variable. In a bare row this is a premise. The card (YtodofpjdcongnaaDoorCards.lean) ties it to the program's text. -/
def laid_io_ErrShortBuffer {H : Type} : DataW H := .iface "*errors.errorString" (.ptr (.agg [.lit (.string [115, 104, 111, 114, 116, 32, 98, 117, 102, 102, 101, 114])]))
def laid_io_EOF {H : Type} : DataW H := .iface "*errors.errorString" (.ptr (.agg [.lit (.string [69, 79, 70])]))
def laid_io_ErrUnexpectedEOF {H : Type} : DataW H := .iface "*errors.errorString" (.ptr (.agg [.lit (.string [117, 110, 101, 120, 112, 101, 99, 116, 101, 100, 32, 69, 79, 70])]))

/-- 'laws.FnSignHeaders': WHATEVER THE INPUT: true; the input reads as it did. -/
def fnSignHeadersSpec : ChangeSpec := { name := "fnSignHeaders", fn := fun _ => fun
  | [d1, d2, d3, d4, d5] => { results := [.lit (.bool true)], args := [d1, d2, d3, d4, d5] }
  | _ => none }
def fnSignHeadersRow : OpenClaim := { program := "ytodofpjdcongnaadoor", sum := "71e139071ee35bd17ac8850e92442543cb6ccc39b4dcdaab7bcb20a5b5d2cd44", func := "loop.example/pub-g01470/laws.FnSignHeaders", spec := "fnSignHeaders", unfollowed := true, recurses := true, named := ["io.EOF", "io.ErrUnexpectedEOF", "io.ErrShortBuffer"], apart := false, laid := [("io.ErrShortBuffer", laid_io_ErrShortBuffer), ("io.EOF", laid_io_EOF), ("io.ErrUnexpectedEOF", laid_io_ErrUnexpectedEOF)] }
def FnSignHeadersSaid : Prop := fnSignHeadersRow.holds Tryd.pinned (OpenSpec.ofChange fnSignHeadersSpec)

/-- ITS FALSE NEIGHBOUR: 'it returns false'. Refute it at one input. -/
def fnSignHeadersWrong : ChangeSpec := { name := "fnSignHeaders", fn := fun _ => fun
  | [d1, d2, d3, d4, d5] => { results := [.lit (.bool false)], args := [d1, d2, d3, d4, d5] }
  | _ => none }
def FnSignHeadersWrongFalsely : Prop := fnSignHeadersRow.holds Tryd.pinned (OpenSpec.ofChange fnSignHeadersWrong)

/-- 'laws.FnSign': WHATEVER THE INPUT: true; the input reads as it did. -/
def fnSignSpec : ChangeSpec := { name := "fnSign", fn := fun _ => fun
  | [d1, d2, d3, d4, d5] => { results := [.lit (.bool true)], args := [d1, d2, d3, d4, d5] }
  | _ => none }
def fnSignRow : OpenClaim := { program := "ytodofpjdcongnaadoor", sum := "71e139071ee35bd17ac8850e92442543cb6ccc39b4dcdaab7bcb20a5b5d2cd44", func := "loop.example/pub-g01470/laws.FnSign", spec := "fnSign", unfollowed := true, recurses := true, named := ["io.EOF", "io.ErrUnexpectedEOF", "io.ErrShortBuffer"], apart := false, laid := [("io.ErrShortBuffer", laid_io_ErrShortBuffer), ("io.EOF", laid_io_EOF), ("io.ErrUnexpectedEOF", laid_io_ErrUnexpectedEOF)] }
def FnSignSaid : Prop := fnSignRow.holds Tryd.pinned (OpenSpec.ofChange fnSignSpec)

/-- ITS FALSE NEIGHBOUR: 'it returns false'. Refute it at one input. -/
def fnSignWrong : ChangeSpec := { name := "fnSign", fn := fun _ => fun
  | [d1, d2, d3, d4, d5] => { results := [.lit (.bool false)], args := [d1, d2, d3, d4, d5] }
  | _ => none }
def FnSignWrongFalsely : Prop := fnSignRow.holds Tryd.pinned (OpenSpec.ofChange fnSignWrong)

/-- 'laws.FnSignPage': WHATEVER THE INPUT: true; the input reads as it did. -/
def fnSignPageSpec : ChangeSpec := { name := "fnSignPage", fn := fun _ => fun
  | [d1, d2, d3, d4, d5, d6, d7] => { results := [.lit (.bool true)], args := [d1, d2, d3, d4, d5, d6, d7] }
  | _ => none }
def fnSignPageRow : OpenClaim := { program := "ytodofpjdcongnaadoor", sum := "71e139071ee35bd17ac8850e92442543cb6ccc39b4dcdaab7bcb20a5b5d2cd44", func := "loop.example/pub-g01470/laws.FnSignPage", spec := "fnSignPage", unfollowed := true, recurses := true, named := ["io.EOF", "io.ErrUnexpectedEOF", "io.ErrShortBuffer"], apart := false, laid := [("io.ErrShortBuffer", laid_io_ErrShortBuffer), ("io.EOF", laid_io_EOF), ("io.ErrUnexpectedEOF", laid_io_ErrUnexpectedEOF)] }
def FnSignPageSaid : Prop := fnSignPageRow.holds Tryd.pinned (OpenSpec.ofChange fnSignPageSpec)

/-- ITS FALSE NEIGHBOUR: 'it returns false'. Refute it at one input. -/
def fnSignPageWrong : ChangeSpec := { name := "fnSignPage", fn := fun _ => fun
  | [d1, d2, d3, d4, d5, d6, d7] => { results := [.lit (.bool false)], args := [d1, d2, d3, d4, d5, d6, d7] }
  | _ => none }
def FnSignPageWrongFalsely : Prop := fnSignPageRow.holds Tryd.pinned (OpenSpec.ofChange fnSignPageWrong)

/-- 'laws.FnSignReader': WHATEVER THE INPUT: true; the input reads as it did. -/
def fnSignReaderSpec : ChangeSpec := { name := "fnSignReader", fn := fun _ => fun
  | [d1, d2, d3, d4, d5] => { results := [.lit (.bool true)], args := [d1, d2, d3, d4, d5] }
  | _ => none }
def fnSignReaderRow : OpenClaim := { program := "ytodofpjdcongnaadoor", sum := "71e139071ee35bd17ac8850e92442543cb6ccc39b4dcdaab7bcb20a5b5d2cd44", func := "loop.example/pub-g01470/laws.FnSignReader", spec := "fnSignReader", unfollowed := true, recurses := true, named := ["io.EOF", "io.ErrUnexpectedEOF", "io.ErrShortBuffer"], apart := false, laid := [("io.ErrShortBuffer", laid_io_ErrShortBuffer), ("io.EOF", laid_io_EOF), ("io.ErrUnexpectedEOF", laid_io_ErrUnexpectedEOF)] }
def FnSignReaderSaid : Prop := fnSignReaderRow.holds Tryd.pinned (OpenSpec.ofChange fnSignReaderSpec)

/-- ITS FALSE NEIGHBOUR: 'it returns false'. Refute it at one input. -/
def fnSignReaderWrong : ChangeSpec := { name := "fnSignReader", fn := fun _ => fun
  | [d1, d2, d3, d4, d5] => { results := [.lit (.bool false)], args := [d1, d2, d3, d4, d5] }
  | _ => none }
def FnSignReaderWrongFalsely : Prop := fnSignReaderRow.holds Tryd.pinned (OpenSpec.ofChange fnSignReaderWrong)

/-- 'laws.FnSignLength': WHATEVER THE INPUT: true; the input reads as it did. -/
def fnSignLengthSpec : ChangeSpec := { name := "fnSignLength", fn := fun _ => fun
  | [d1, d2, d3, d4, d5] => { results := [.lit (.bool true)], args := [d1, d2, d3, d4, d5] }
  | _ => none }
def fnSignLengthRow : OpenClaim := { program := "ytodofpjdcongnaadoor", sum := "71e139071ee35bd17ac8850e92442543cb6ccc39b4dcdaab7bcb20a5b5d2cd44", func := "loop.example/pub-g01470/laws.FnSignLength", spec := "fnSignLength", unfollowed := true, recurses := true, named := ["io.EOF", "io.ErrUnexpectedEOF", "io.ErrShortBuffer"], apart := false, laid := [("io.ErrShortBuffer", laid_io_ErrShortBuffer), ("io.EOF", laid_io_EOF), ("io.ErrUnexpectedEOF", laid_io_ErrUnexpectedEOF)] }
def FnSignLengthSaid : Prop := fnSignLengthRow.holds Tryd.pinned (OpenSpec.ofChange fnSignLengthSpec)

/-- ITS FALSE NEIGHBOUR: 'it returns false'. Refute it at one input. -/
def fnSignLengthWrong : ChangeSpec := { name := "fnSignLength", fn := fun _ => fun
  | [d1, d2, d3, d4, d5] => { results := [.lit (.bool false)], args := [d1, d2, d3, d4, d5] }
  | _ => none }
def FnSignLengthWrongFalsely : Prop := fnSignLengthRow.holds Tryd.pinned (OpenSpec.ofChange fnSignLengthWrong)

/- THE SECOND FORM. 'bulk': how many values and letters a reading holds, each counted each time it is reached (what is shared counts as often as it is met; a slice's spare places count too). A statement '..UptoSaid' is the law's where the arguments, and the package variables that the reading takes, are together of bulk at most 1048576: NARROWER than '..Said'. Prove '..Said' where nothing that the law and all that it calls make is longer than what came in: it says more and counts as full. Else prove '..UptoSaid'. A law counts once. -/
mutual
def uptoBulk {H : Type} : DataW H → Nat
  | .lit (.string bytes) => bytes.length + 1
  | .lit _ => 1
  | .nil => 1
  | .ptr d => uptoBulk d + 1
  | .slice elems spare => uptoBulkAll elems + uptoBulkAll spare + 1
  | .agg parts => uptoBulkAll parts + 1
  | .iface _ d => uptoBulk d + 1
  | .map entries => uptoBulkEntries entries + 1
  | .held _ => 1
def uptoBulkAll {H : Type} : List (DataW H) → Nat
  | [] => 0
  | d :: r => uptoBulk d + uptoBulkAll r
def uptoBulkEntries {H : Type} : List (Lit × DataW H) → Nat
  | [] => 0
  | x :: r => uptoBulkEntry x + uptoBulkEntries r
def uptoBulkEntry {H : Type} : Lit × DataW H → Nat
  | (.string bytes, d) => bytes.length + uptoBulk d + 1
  | (_, d) => uptoBulk d + 1
 end
def uptoSmall : (H : Type) → List (DataW H) → Bool := fun _ ds => decide (uptoBulkAll ds ≤ 1048576)
def OpenSpec.upto (s : _root_.Go.ChangeSpec) : _root_.Go.OpenSpec := { _root_.Go.OpenSpec.ofChange s with cond := some uptoSmall }

/-- 'laws.FnSignHeaders', WHERE WHAT IT READS IS OF BULK AT MOST 1048576: true; the input reads as it did. -/
def fnSignHeadersUptoRow : OpenClaim := { program := "ytodofpjdcongnaadoor", sum := "71e139071ee35bd17ac8850e92442543cb6ccc39b4dcdaab7bcb20a5b5d2cd44", func := "loop.example/pub-g01470/laws.FnSignHeaders", spec := "fnSignHeaders", unfollowed := true, recurses := true, named := ["io.EOF", "io.ErrUnexpectedEOF", "io.ErrShortBuffer"], apart := false, laid := [("io.ErrShortBuffer", laid_io_ErrShortBuffer), ("io.EOF", laid_io_EOF), ("io.ErrUnexpectedEOF", laid_io_ErrUnexpectedEOF)], narrowed := true }
def FnSignHeadersUptoSaid : Prop := fnSignHeadersUptoRow.holds Tryd.pinned (OpenSpec.upto fnSignHeadersSpec)

/-- 'laws.FnSign', WHERE WHAT IT READS IS OF BULK AT MOST 1048576: true; the input reads as it did. -/
def fnSignUptoRow : OpenClaim := { program := "ytodofpjdcongnaadoor", sum := "71e139071ee35bd17ac8850e92442543cb6ccc39b4dcdaab7bcb20a5b5d2cd44", func := "loop.example/pub-g01470/laws.FnSign", spec := "fnSign", unfollowed := true, recurses := true, named := ["io.EOF", "io.ErrUnexpectedEOF", "io.ErrShortBuffer"], apart := false, laid := [("io.ErrShortBuffer", laid_io_ErrShortBuffer), ("io.EOF", laid_io_EOF), ("io.ErrUnexpectedEOF", laid_io_ErrUnexpectedEOF)], narrowed := true }
def FnSignUptoSaid : Prop := fnSignUptoRow.holds Tryd.pinned (OpenSpec.upto fnSignSpec)

/-- 'laws.FnSignPage', WHERE WHAT IT READS IS OF BULK AT MOST 1048576: true; the input reads as it did. -/
def fnSignPageUptoRow : OpenClaim := { program := "ytodofpjdcongnaadoor", sum := "71e139071ee35bd17ac8850e92442543cb6ccc39b4dcdaab7bcb20a5b5d2cd44", func := "loop.example/pub-g01470/laws.FnSignPage", spec := "fnSignPage", unfollowed := true, recurses := true, named := ["io.EOF", "io.ErrUnexpectedEOF", "io.ErrShortBuffer"], apart := false, laid := [("io.ErrShortBuffer", laid_io_ErrShortBuffer), ("io.EOF", laid_io_EOF), ("io.ErrUnexpectedEOF", laid_io_ErrUnexpectedEOF)], narrowed := true }
def FnSignPageUptoSaid : Prop := fnSignPageUptoRow.holds Tryd.pinned (OpenSpec.upto fnSignPageSpec)

/-- 'laws.FnSignReader', WHERE WHAT IT READS IS OF BULK AT MOST 1048576: true; the input reads as it did. -/
def fnSignReaderUptoRow : OpenClaim := { program := "ytodofpjdcongnaadoor", sum := "71e139071ee35bd17ac8850e92442543cb6ccc39b4dcdaab7bcb20a5b5d2cd44", func := "loop.example/pub-g01470/laws.FnSignReader", spec := "fnSignReader", unfollowed := true, recurses := true, named := ["io.EOF", "io.ErrUnexpectedEOF", "io.ErrShortBuffer"], apart := false, laid := [("io.ErrShortBuffer", laid_io_ErrShortBuffer), ("io.EOF", laid_io_EOF), ("io.ErrUnexpectedEOF", laid_io_ErrUnexpectedEOF)], narrowed := true }
def FnSignReaderUptoSaid : Prop := fnSignReaderUptoRow.holds Tryd.pinned (OpenSpec.upto fnSignReaderSpec)

/-- 'laws.FnSignLength', WHERE WHAT IT READS IS OF BULK AT MOST 1048576: true; the input reads as it did. -/
def fnSignLengthUptoRow : OpenClaim := { program := "ytodofpjdcongnaadoor", sum := "71e139071ee35bd17ac8850e92442543cb6ccc39b4dcdaab7bcb20a5b5d2cd44", func := "loop.example/pub-g01470/laws.FnSignLength", spec := "fnSignLength", unfollowed := true, recurses := true, named := ["io.EOF", "io.ErrUnexpectedEOF", "io.ErrShortBuffer"], apart := false, laid := [("io.ErrShortBuffer", laid_io_ErrShortBuffer), ("io.EOF", laid_io_EOF), ("io.ErrUnexpectedEOF", laid_io_ErrUnexpectedEOF)], narrowed := true }
def FnSignLengthUptoSaid : Prop := fnSignLengthUptoRow.holds Tryd.pinned (OpenSpec.upto fnSignLengthSpec)

end Rows
end Go.Proofs.YtodofpjdcongnaaDoor
