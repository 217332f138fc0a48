/-
  No cell of these rows narrows 'for every input' (looked for: loops, veiled, ifaces, maps, wideKeys, modest, calm, conditions, laid).
  DERIVED. THE GIVEN ROWS OF THIS SEAT. 9 by the template 'for every input the law returns true; each argument reads behind the call as it read before'; 0 by the template 'total and deterministic' (their statements: YtcblhkcdolaigaaTotals.lean).
  GIVEN WITH THE SEED: the statements are not yours to turn. If you find one false, say at which input.
  Laid BY PROGRAM, IN A SANDBOX (cutbox-rows.mjs): the forced cells as the released guide's own fill.sh prints them over the translation 06277af7d6b72827… (all of the seat's roots in one cut). By AI agents, Wed Nov 11 2026. No macro, syntax, notation, axiom, sorry.
-/
import Derived.Test.YtcblhkcdolaigaaChecked
import GoSem.Claim
import GoSem.ClaimJoined
import GoSem.ClaimMapViews
import Derived.JoinedTies
import Derived.KernelRfl
namespace Go.Proofs.Ytcblhkcdolaigaa
/- THE CELL 'sum', in the pinned program and in every row, IS THE sha256 OF THE DUMP (.gsa) THAT YtcblhkcdolaigaaProg.lean LOADS. Nothing in Lean hashes anything: it is a label: what it is worth is what the hold of that sum in a sandbox is worth. -/
noncomputable def Try.pinned : Pinned := { name := "ytcblhkcdolaigaa", sum := "06277af7d6b72827100b182a486a81a76713765c2cb2a67d744e5c10c89607c2", checked := Try.checked }
namespace Rows
def none {H : Type} : Left H := { results := [], args := [] }

/-- 'laws.FnSignSize': WHATEVER THE INPUT: true; the input reads as it did. -/
def fnSignSizeSpec : ChangeSpec := { name := "fnSignSize", fn := fun _ => fun
  | [d1, d2] => { results := [.lit (.bool true)], args := [d1, d2] }
  | _ => none }
def fnSignSizeRow : OpenClaim := { program := "ytcblhkcdolaigaa", sum := "06277af7d6b72827100b182a486a81a76713765c2cb2a67d744e5c10c89607c2", func := "loop.example/pub-g01470/laws.FnSignSize", spec := "fnSignSize", apart := false }
def FnSignSizeSaid : Prop := fnSignSizeRow.holds Try.pinned (OpenSpec.ofChange fnSignSizeSpec)

/-- ITS FALSE NEIGHBOUR: 'it returns false'. Refute it at one input. -/
def fnSignSizeWrong : ChangeSpec := { name := "fnSignSize", fn := fun _ => fun
  | [d1, d2] => { results := [.lit (.bool false)], args := [d1, d2] }
  | _ => none }
def FnSignSizeWrongFalsely : Prop := fnSignSizeRow.holds Try.pinned (OpenSpec.ofChange fnSignSizeWrong)

/-- 'laws.FnSignSizeMore': WHATEVER THE INPUT: true; the input reads as it did. -/
def fnSignSizeMoreSpec : ChangeSpec := { name := "fnSignSizeMore", fn := fun _ => fun
  | [d1, d2] => { results := [.lit (.bool true)], args := [d1, d2] }
  | _ => none }
def fnSignSizeMoreRow : OpenClaim := { program := "ytcblhkcdolaigaa", sum := "06277af7d6b72827100b182a486a81a76713765c2cb2a67d744e5c10c89607c2", func := "loop.example/pub-g01470/laws.FnSignSizeMore", spec := "fnSignSizeMore", apart := false }
def FnSignSizeMoreSaid : Prop := fnSignSizeMoreRow.holds Try.pinned (OpenSpec.ofChange fnSignSizeMoreSpec)

/-- ITS FALSE NEIGHBOUR: 'it returns false'. Refute it at one input. -/
def fnSignSizeMoreWrong : ChangeSpec := { name := "fnSignSizeMore", fn := fun _ => fun
  | [d1, d2] => { results := [.lit (.bool false)], args := [d1, d2] }
  | _ => none }
def FnSignSizeMoreWrongFalsely : Prop := fnSignSizeMoreRow.holds Try.pinned (OpenSpec.ofChange fnSignSizeMoreWrong)

/-- 'laws.FnBlob': WHATEVER THE INPUT: true; the input reads as it did. -/
def fnBlobSpec : ChangeSpec := { name := "fnBlob", fn := fun _ => fun
  | [d1, d2, d3] => { results := [.lit (.bool true)], args := [d1, d2, d3] }
  | _ => none }
def fnBlobRow : OpenClaim := { program := "ytcblhkcdolaigaa", sum := "06277af7d6b72827100b182a486a81a76713765c2cb2a67d744e5c10c89607c2", func := "loop.example/pub-g01470/laws.FnBlob", spec := "fnBlob", apart := false }
def FnBlobSaid : Prop := fnBlobRow.holds Try.pinned (OpenSpec.ofChange fnBlobSpec)

/-- ITS FALSE NEIGHBOUR: 'it returns false'. Refute it at one input. -/
def fnBlobWrong : ChangeSpec := { name := "fnBlob", fn := fun _ => fun
  | [d1, d2, d3] => { results := [.lit (.bool false)], args := [d1, d2, d3] }
  | _ => none }
def FnBlobWrongFalsely : Prop := fnBlobRow.holds Try.pinned (OpenSpec.ofChange fnBlobWrong)

/-- 'laws.FnShellName': WHATEVER THE INPUT: true; the input reads as it did. -/
def fnShellNameSpec : ChangeSpec := { name := "fnShellName", fn := fun _ => fun
  | [d1, d2] => { results := [.lit (.bool true)], args := [d1, d2] }
  | _ => none }
def fnShellNameRow : OpenClaim := { program := "ytcblhkcdolaigaa", sum := "06277af7d6b72827100b182a486a81a76713765c2cb2a67d744e5c10c89607c2", func := "loop.example/pub-g01470/laws.FnShellName", spec := "fnShellName", apart := false }
def FnShellNameSaid : Prop := fnShellNameRow.holds Try.pinned (OpenSpec.ofChange fnShellNameSpec)

/-- ITS FALSE NEIGHBOUR: 'it returns false'. Refute it at one input. -/
def fnShellNameWrong : ChangeSpec := { name := "fnShellName", fn := fun _ => fun
  | [d1, d2] => { results := [.lit (.bool false)], args := [d1, d2] }
  | _ => none }
def FnShellNameWrongFalsely : Prop := fnShellNameRow.holds Try.pinned (OpenSpec.ofChange fnShellNameWrong)

/-- 'laws.FnShellNameBraces': WHATEVER THE INPUT: true; the input reads as it did. -/
def fnShellNameBracesSpec : ChangeSpec := { name := "fnShellNameBraces", fn := fun _ => fun
  | [d1, d2] => { results := [.lit (.bool true)], args := [d1, d2] }
  | _ => none }
def fnShellNameBracesRow : OpenClaim := { program := "ytcblhkcdolaigaa", sum := "06277af7d6b72827100b182a486a81a76713765c2cb2a67d744e5c10c89607c2", func := "loop.example/pub-g01470/laws.FnShellNameBraces", spec := "fnShellNameBraces", apart := false }
def FnShellNameBracesSaid : Prop := fnShellNameBracesRow.holds Try.pinned (OpenSpec.ofChange fnShellNameBracesSpec)

/-- ITS FALSE NEIGHBOUR: 'it returns false'. Refute it at one input. -/
def fnShellNameBracesWrong : ChangeSpec := { name := "fnShellNameBraces", fn := fun _ => fun
  | [d1, d2] => { results := [.lit (.bool false)], args := [d1, d2] }
  | _ => none }
def FnShellNameBracesWrongFalsely : Prop := fnShellNameBracesRow.holds Try.pinned (OpenSpec.ofChange fnShellNameBracesWrong)

/-- 'laws.FnWrapShort': WHATEVER THE INPUT: true; the input reads as it did. -/
def fnWrapShortSpec : ChangeSpec := { name := "fnWrapShort", fn := fun _ => fun
  | [d1, d2, d3] => { results := [.lit (.bool true)], args := [d1, d2, d3] }
  | _ => none }
def fnWrapShortRow : OpenClaim := { program := "ytcblhkcdolaigaa", sum := "06277af7d6b72827100b182a486a81a76713765c2cb2a67d744e5c10c89607c2", func := "loop.example/pub-g01470/laws.FnWrapShort", spec := "fnWrapShort", unfollowed := true, recurses := true, apart := false }
def FnWrapShortSaid : Prop := fnWrapShortRow.holds Try.pinned (OpenSpec.ofChange fnWrapShortSpec)

/-- ITS FALSE NEIGHBOUR: 'it returns false'. Refute it at one input. -/
def fnWrapShortWrong : ChangeSpec := { name := "fnWrapShort", fn := fun _ => fun
  | [d1, d2, d3] => { results := [.lit (.bool false)], args := [d1, d2, d3] }
  | _ => none }
def FnWrapShortWrongFalsely : Prop := fnWrapShortRow.holds Try.pinned (OpenSpec.ofChange fnWrapShortWrong)

/-- 'laws.FnWrapWide': WHATEVER THE INPUT: true; the input reads as it did. -/
def fnWrapWideSpec : ChangeSpec := { name := "fnWrapWide", fn := fun _ => fun
  | [d1, d2] => { results := [.lit (.bool true)], args := [d1, d2] }
  | _ => none }
def fnWrapWideRow : OpenClaim := { program := "ytcblhkcdolaigaa", sum := "06277af7d6b72827100b182a486a81a76713765c2cb2a67d744e5c10c89607c2", func := "loop.example/pub-g01470/laws.FnWrapWide", spec := "fnWrapWide", unfollowed := true, recurses := true, apart := false }
def FnWrapWideSaid : Prop := fnWrapWideRow.holds Try.pinned (OpenSpec.ofChange fnWrapWideSpec)

/-- ITS FALSE NEIGHBOUR: 'it returns false'. Refute it at one input. -/
def fnWrapWideWrong : ChangeSpec := { name := "fnWrapWide", fn := fun _ => fun
  | [d1, d2] => { results := [.lit (.bool false)], args := [d1, d2] }
  | _ => none }
def FnWrapWideWrongFalsely : Prop := fnWrapWideRow.holds Try.pinned (OpenSpec.ofChange fnWrapWideWrong)

/-- 'laws.FnWrapWords': WHATEVER THE INPUT: true; the input reads as it did. -/
def fnWrapWordsSpec : ChangeSpec := { name := "fnWrapWords", fn := fun _ => fun
  | [d1, d2, d3] => { results := [.lit (.bool true)], args := [d1, d2, d3] }
  | _ => none }
def fnWrapWordsRow : OpenClaim := { program := "ytcblhkcdolaigaa", sum := "06277af7d6b72827100b182a486a81a76713765c2cb2a67d744e5c10c89607c2", func := "loop.example/pub-g01470/laws.FnWrapWords", spec := "fnWrapWords", unfollowed := true, recurses := true, apart := false }
def FnWrapWordsSaid : Prop := fnWrapWordsRow.holds Try.pinned (OpenSpec.ofChange fnWrapWordsSpec)

/-- ITS FALSE NEIGHBOUR: 'it returns false'. Refute it at one input. -/
def fnWrapWordsWrong : ChangeSpec := { name := "fnWrapWords", fn := fun _ => fun
  | [d1, d2, d3] => { results := [.lit (.bool false)], args := [d1, d2, d3] }
  | _ => none }
def FnWrapWordsWrongFalsely : Prop := fnWrapWordsRow.holds Try.pinned (OpenSpec.ofChange fnWrapWordsWrong)

/-- 'laws.FnQuoteOne': WHATEVER THE INPUT: true; the input reads as it did. -/
def fnQuoteOneSpec : ChangeSpec := { name := "fnQuoteOne", fn := fun _ => fun
  | [d] => { results := [.lit (.bool true)], args := [d] }
  | _ => none }
def fnQuoteOneRow : OpenClaim := { program := "ytcblhkcdolaigaa", sum := "06277af7d6b72827100b182a486a81a76713765c2cb2a67d744e5c10c89607c2", func := "loop.example/pub-g01470/laws.FnQuoteOne", spec := "fnQuoteOne", inPlace := ["internal/abi.NoEscape"], apart := false }
def FnQuoteOneSaid : Prop := fnQuoteOneRow.holds Try.pinned (OpenSpec.ofChange fnQuoteOneSpec)

/-- ITS FALSE NEIGHBOUR: 'it returns false'. Refute it at one input. -/
def fnQuoteOneWrong : ChangeSpec := { name := "fnQuoteOne", fn := fun _ => fun
  | [d] => { results := [.lit (.bool false)], args := [d] }
  | _ => none }
def FnQuoteOneWrongFalsely : Prop := fnQuoteOneRow.holds Try.pinned (OpenSpec.ofChange fnQuoteOneWrong)

/- THE SECOND FORM. 'bulk': how many values and letters a reading holds, each counted each time it is reached (what is shared counts as often as it is met; a slice's spare places count too). A statement '..UptoSaid' is the law's where the arguments, and the package variables that the reading takes, are together of bulk at most 1048576: NARROWER than '..Said'. Prove '..Said' where nothing that the law and all that it calls make is longer than what came in: it says more and counts as full. Else prove '..UptoSaid'. A law counts once. -/
mutual
def uptoBulk {H : Type} : DataW H → Nat
  | .lit (.string bytes) => bytes.length + 1
  | .lit _ => 1
  | .nil => 1
  | .ptr d => uptoBulk d + 1
  | .slice elems spare => uptoBulkAll elems + uptoBulkAll spare + 1
  | .agg parts => uptoBulkAll parts + 1
  | .iface _ d => uptoBulk d + 1
  | .map entries => uptoBulkEntries entries + 1
  | .held _ => 1
def uptoBulkAll {H : Type} : List (DataW H) → Nat
  | [] => 0
  | d :: r => uptoBulk d + uptoBulkAll r
def uptoBulkEntries {H : Type} : List (Lit × DataW H) → Nat
  | [] => 0
  | x :: r => uptoBulkEntry x + uptoBulkEntries r
def uptoBulkEntry {H : Type} : Lit × DataW H → Nat
  | (.string bytes, d) => bytes.length + uptoBulk d + 1
  | (_, d) => uptoBulk d + 1
 end
def uptoSmall : (H : Type) → List (DataW H) → Bool := fun _ ds => decide (uptoBulkAll ds ≤ 1048576)
def OpenSpec.upto (s : _root_.Go.ChangeSpec) : _root_.Go.OpenSpec := { _root_.Go.OpenSpec.ofChange s with cond := some uptoSmall }

/-- 'laws.FnSignSize', WHERE WHAT IT READS IS OF BULK AT MOST 1048576: true; the input reads as it did. -/
def fnSignSizeUptoRow : OpenClaim := { program := "ytcblhkcdolaigaa", sum := "06277af7d6b72827100b182a486a81a76713765c2cb2a67d744e5c10c89607c2", func := "loop.example/pub-g01470/laws.FnSignSize", spec := "fnSignSize", apart := false, narrowed := true }
def FnSignSizeUptoSaid : Prop := fnSignSizeUptoRow.holds Try.pinned (OpenSpec.upto fnSignSizeSpec)

/-- 'laws.FnSignSizeMore', WHERE WHAT IT READS IS OF BULK AT MOST 1048576: true; the input reads as it did. -/
def fnSignSizeMoreUptoRow : OpenClaim := { program := "ytcblhkcdolaigaa", sum := "06277af7d6b72827100b182a486a81a76713765c2cb2a67d744e5c10c89607c2", func := "loop.example/pub-g01470/laws.FnSignSizeMore", spec := "fnSignSizeMore", apart := false, narrowed := true }
def FnSignSizeMoreUptoSaid : Prop := fnSignSizeMoreUptoRow.holds Try.pinned (OpenSpec.upto fnSignSizeMoreSpec)

/-- 'laws.FnBlob', WHERE WHAT IT READS IS OF BULK AT MOST 1048576: true; the input reads as it did. -/
def fnBlobUptoRow : OpenClaim := { program := "ytcblhkcdolaigaa", sum := "06277af7d6b72827100b182a486a81a76713765c2cb2a67d744e5c10c89607c2", func := "loop.example/pub-g01470/laws.FnBlob", spec := "fnBlob", apart := false, narrowed := true }
def FnBlobUptoSaid : Prop := fnBlobUptoRow.holds Try.pinned (OpenSpec.upto fnBlobSpec)

/-- 'laws.FnShellName', WHERE WHAT IT READS IS OF BULK AT MOST 1048576: true; the input reads as it did. -/
def fnShellNameUptoRow : OpenClaim := { program := "ytcblhkcdolaigaa", sum := "06277af7d6b72827100b182a486a81a76713765c2cb2a67d744e5c10c89607c2", func := "loop.example/pub-g01470/laws.FnShellName", spec := "fnShellName", apart := false, narrowed := true }
def FnShellNameUptoSaid : Prop := fnShellNameUptoRow.holds Try.pinned (OpenSpec.upto fnShellNameSpec)

/-- 'laws.FnShellNameBraces', WHERE WHAT IT READS IS OF BULK AT MOST 1048576: true; the input reads as it did. -/
def fnShellNameBracesUptoRow : OpenClaim := { program := "ytcblhkcdolaigaa", sum := "06277af7d6b72827100b182a486a81a76713765c2cb2a67d744e5c10c89607c2", func := "loop.example/pub-g01470/laws.FnShellNameBraces", spec := "fnShellNameBraces", apart := false, narrowed := true }
def FnShellNameBracesUptoSaid : Prop := fnShellNameBracesUptoRow.holds Try.pinned (OpenSpec.upto fnShellNameBracesSpec)

/-- 'laws.FnWrapShort', WHERE WHAT IT READS IS OF BULK AT MOST 1048576: true; the input reads as it did. -/
def fnWrapShortUptoRow : OpenClaim := { program := "ytcblhkcdolaigaa", sum := "06277af7d6b72827100b182a486a81a76713765c2cb2a67d744e5c10c89607c2", func := "loop.example/pub-g01470/laws.FnWrapShort", spec := "fnWrapShort", unfollowed := true, recurses := true, apart := false, narrowed := true }
def FnWrapShortUptoSaid : Prop := fnWrapShortUptoRow.holds Try.pinned (OpenSpec.upto fnWrapShortSpec)

/-- 'laws.FnWrapWide', WHERE WHAT IT READS IS OF BULK AT MOST 1048576: true; the input reads as it did. -/
def fnWrapWideUptoRow : OpenClaim := { program := "ytcblhkcdolaigaa", sum := "06277af7d6b72827100b182a486a81a76713765c2cb2a67d744e5c10c89607c2", func := "loop.example/pub-g01470/laws.FnWrapWide", spec := "fnWrapWide", unfollowed := true, recurses := true, apart := false, narrowed := true }
def FnWrapWideUptoSaid : Prop := fnWrapWideUptoRow.holds Try.pinned (OpenSpec.upto fnWrapWideSpec)

/-- 'laws.FnWrapWords', WHERE WHAT IT READS IS OF BULK AT MOST 1048576: true; the input reads as it did. -/
def fnWrapWordsUptoRow : OpenClaim := { program := "ytcblhkcdolaigaa", sum := "06277af7d6b72827100b182a486a81a76713765c2cb2a67d744e5c10c89607c2", func := "loop.example/pub-g01470/laws.FnWrapWords", spec := "fnWrapWords", unfollowed := true, recurses := true, apart := false, narrowed := true }
def FnWrapWordsUptoSaid : Prop := fnWrapWordsUptoRow.holds Try.pinned (OpenSpec.upto fnWrapWordsSpec)

/-- 'laws.FnQuoteOne', WHERE WHAT IT READS IS OF BULK AT MOST 1048576: true; the input reads as it did. -/
def fnQuoteOneUptoRow : OpenClaim := { program := "ytcblhkcdolaigaa", sum := "06277af7d6b72827100b182a486a81a76713765c2cb2a67d744e5c10c89607c2", func := "loop.example/pub-g01470/laws.FnQuoteOne", spec := "fnQuoteOne", inPlace := ["internal/abi.NoEscape"], apart := false, narrowed := true }
def FnQuoteOneUptoSaid : Prop := fnQuoteOneUptoRow.holds Try.pinned (OpenSpec.upto fnQuoteOneSpec)

end Rows
end Go.Proofs.Ytcblhkcdolaigaa
