/-
  No cell of these rows narrows 'for every input' (looked for: loops, veiled, ifaces, maps, wideKeys, modest, calm, conditions, laid).
  DERIVED. THE GIVEN ROWS OF THIS SEAT. 8 by the template 'for every input the law returns true; each argument reads behind the call as it read before'; 0 by the template 'total and deterministic' (their statements: YtopmkiadoacipaaTotals.lean).
  GIVEN WITH THE SEED: the statements are not yours to turn. If you find one false, say at which input.
  Laid BY PROGRAM, IN A SANDBOX (cutbox-rows.mjs): the forced cells as the released guide's own fill.sh prints them over the translation a6eedb9ebc94dcef… (all of the seat's roots in one cut). By AI agents, Wed Nov 11 2026. No macro, syntax, notation, axiom, sorry.
-/
import Derived.Test.YtopmkiadoacipaaChecked
import GoSem.Claim
import GoSem.ClaimJoined
import GoSem.ClaimMapViews
import Derived.JoinedTies
import Derived.KernelRfl
namespace Go.Proofs.Ytopmkiadoacipaa
/- THE CELL 'sum', in the pinned program and in every row, IS THE sha256 OF THE DUMP (.gsa) THAT YtopmkiadoacipaaProg.lean LOADS. Nothing in Lean hashes anything: it is a label: what it is worth is what the hold of that sum in a sandbox is worth. -/
noncomputable def Try.pinned : Pinned := { name := "ytopmkiadoacipaa", sum := "a6eedb9ebc94dcef3dd5163196389578fb8d759c0805ffb87a1ac8f011272b66", checked := Try.checked }
namespace Rows
def none {H : Type} : Left H := { results := [], args := [] }

/-- 'laws.FnExpandBraces': WHATEVER THE INPUT: true; the input reads as it did. -/
def fnExpandBracesSpec : ChangeSpec := { name := "fnExpandBraces", fn := fun _ => fun
  | [d1, d2, d3, d4] => { results := [.lit (.bool true)], args := [d1, d2, d3, d4] }
  | _ => none }
def fnExpandBracesRow : OpenClaim := { program := "ytopmkiadoacipaa", sum := "a6eedb9ebc94dcef3dd5163196389578fb8d759c0805ffb87a1ac8f011272b66", func := "loop.example/pub-g01470/laws.FnExpandBraces", spec := "fnExpandBraces", unfollowed := true, recurses := true, apart := false }
def FnExpandBracesSaid : Prop := fnExpandBracesRow.holds Try.pinned (OpenSpec.ofChange fnExpandBracesSpec)

/-- ITS FALSE NEIGHBOUR: 'it returns false'. Refute it at one input. -/
def fnExpandBracesWrong : ChangeSpec := { name := "fnExpandBraces", fn := fun _ => fun
  | [d1, d2, d3, d4] => { results := [.lit (.bool false)], args := [d1, d2, d3, d4] }
  | _ => none }
def FnExpandBracesWrongFalsely : Prop := fnExpandBracesRow.holds Try.pinned (OpenSpec.ofChange fnExpandBracesWrong)

/-- 'laws.FnExpandEach': WHATEVER THE INPUT: true; the input reads as it did. -/
def fnExpandEachSpec : ChangeSpec := { name := "fnExpandEach", fn := fun _ => fun
  | [d1, d2, d3, d4] => { results := [.lit (.bool true)], args := [d1, d2, d3, d4] }
  | _ => none }
def fnExpandEachRow : OpenClaim := { program := "ytopmkiadoacipaa", sum := "a6eedb9ebc94dcef3dd5163196389578fb8d759c0805ffb87a1ac8f011272b66", func := "loop.example/pub-g01470/laws.FnExpandEach", spec := "fnExpandEach", unfollowed := true, recurses := true, apart := false }
def FnExpandEachSaid : Prop := fnExpandEachRow.holds Try.pinned (OpenSpec.ofChange fnExpandEachSpec)

/-- ITS FALSE NEIGHBOUR: 'it returns false'. Refute it at one input. -/
def fnExpandEachWrong : ChangeSpec := { name := "fnExpandEach", fn := fun _ => fun
  | [d1, d2, d3, d4] => { results := [.lit (.bool false)], args := [d1, d2, d3, d4] }
  | _ => none }
def FnExpandEachWrongFalsely : Prop := fnExpandEachRow.holds Try.pinned (OpenSpec.ofChange fnExpandEachWrong)

/-- 'laws.FnExpandMade': WHATEVER THE INPUT: true; the input reads as it did. -/
def fnExpandMadeSpec : ChangeSpec := { name := "fnExpandMade", fn := fun _ => fun
  | [d1, d2, d3] => { results := [.lit (.bool true)], args := [d1, d2, d3] }
  | _ => none }
def fnExpandMadeRow : OpenClaim := { program := "ytopmkiadoacipaa", sum := "a6eedb9ebc94dcef3dd5163196389578fb8d759c0805ffb87a1ac8f011272b66", func := "loop.example/pub-g01470/laws.FnExpandMade", spec := "fnExpandMade", unfollowed := true, recurses := true, apart := false }
def FnExpandMadeSaid : Prop := fnExpandMadeRow.holds Try.pinned (OpenSpec.ofChange fnExpandMadeSpec)

/-- ITS FALSE NEIGHBOUR: 'it returns false'. Refute it at one input. -/
def fnExpandMadeWrong : ChangeSpec := { name := "fnExpandMade", fn := fun _ => fun
  | [d1, d2, d3] => { results := [.lit (.bool false)], args := [d1, d2, d3] }
  | _ => none }
def FnExpandMadeWrongFalsely : Prop := fnExpandMadeRow.holds Try.pinned (OpenSpec.ofChange fnExpandMadeWrong)

/-- 'laws.FnExpandPlain': WHATEVER THE INPUT: true; the input reads as it did. -/
def fnExpandPlainSpec : ChangeSpec := { name := "fnExpandPlain", fn := fun _ => fun
  | [d1, d2, d3] => { results := [.lit (.bool true)], args := [d1, d2, d3] }
  | _ => none }
def fnExpandPlainRow : OpenClaim := { program := "ytopmkiadoacipaa", sum := "a6eedb9ebc94dcef3dd5163196389578fb8d759c0805ffb87a1ac8f011272b66", func := "loop.example/pub-g01470/laws.FnExpandPlain", spec := "fnExpandPlain", unfollowed := true, recurses := true, apart := false }
def FnExpandPlainSaid : Prop := fnExpandPlainRow.holds Try.pinned (OpenSpec.ofChange fnExpandPlainSpec)

/-- ITS FALSE NEIGHBOUR: 'it returns false'. Refute it at one input. -/
def fnExpandPlainWrong : ChangeSpec := { name := "fnExpandPlain", fn := fun _ => fun
  | [d1, d2, d3] => { results := [.lit (.bool false)], args := [d1, d2, d3] }
  | _ => none }
def FnExpandPlainWrongFalsely : Prop := fnExpandPlainRow.holds Try.pinned (OpenSpec.ofChange fnExpandPlainWrong)

/-- 'laws.FnEnvMade': WHATEVER THE INPUT: true; the input reads as it did. -/
def fnEnvMadeSpec : ChangeSpec := { name := "fnEnvMade", fn := fun _ => fun
  | [d1, d2, d3] => { results := [.lit (.bool true)], args := [d1, d2, d3] }
  | _ => none }
def fnEnvMadeRow : OpenClaim := { program := "ytopmkiadoacipaa", sum := "a6eedb9ebc94dcef3dd5163196389578fb8d759c0805ffb87a1ac8f011272b66", func := "loop.example/pub-g01470/laws.FnEnvMade", spec := "fnEnvMade", unfollowed := true, recurses := true, apart := false }
def FnEnvMadeSaid : Prop := fnEnvMadeRow.holds Try.pinned (OpenSpec.ofChange fnEnvMadeSpec)

/-- ITS FALSE NEIGHBOUR: 'it returns false'. Refute it at one input. -/
def fnEnvMadeWrong : ChangeSpec := { name := "fnEnvMade", fn := fun _ => fun
  | [d1, d2, d3] => { results := [.lit (.bool false)], args := [d1, d2, d3] }
  | _ => none }
def FnEnvMadeWrongFalsely : Prop := fnEnvMadeRow.holds Try.pinned (OpenSpec.ofChange fnEnvMadeWrong)

/-- 'laws.FnEnvRegexp': WHATEVER THE INPUT: true; the input reads as it did. -/
def fnEnvRegexpSpec : ChangeSpec := { name := "fnEnvRegexp", fn := fun _ => fun
  | [d1, d2, d3] => { results := [.lit (.bool true)], args := [d1, d2, d3] }
  | _ => none }
def fnEnvRegexpRow : OpenClaim := { program := "ytopmkiadoacipaa", sum := "a6eedb9ebc94dcef3dd5163196389578fb8d759c0805ffb87a1ac8f011272b66", func := "loop.example/pub-g01470/laws.FnEnvRegexp", spec := "fnEnvRegexp", unfollowed := true, recurses := true, apart := false }
def FnEnvRegexpSaid : Prop := fnEnvRegexpRow.holds Try.pinned (OpenSpec.ofChange fnEnvRegexpSpec)

/-- ITS FALSE NEIGHBOUR: 'it returns false'. Refute it at one input. -/
def fnEnvRegexpWrong : ChangeSpec := { name := "fnEnvRegexp", fn := fun _ => fun
  | [d1, d2, d3] => { results := [.lit (.bool false)], args := [d1, d2, d3] }
  | _ => none }
def FnEnvRegexpWrongFalsely : Prop := fnEnvRegexpRow.holds Try.pinned (OpenSpec.ofChange fnEnvRegexpWrong)

/-- 'laws.FnArgsExpanded': WHATEVER THE INPUT: true; the input reads as it did. -/
def fnArgsExpandedSpec : ChangeSpec := { name := "fnArgsExpanded", fn := fun _ => fun
  | [d1, d2, d3] => { results := [.lit (.bool true)], args := [d1, d2, d3] }
  | _ => none }
def fnArgsExpandedRow : OpenClaim := { program := "ytopmkiadoacipaa", sum := "a6eedb9ebc94dcef3dd5163196389578fb8d759c0805ffb87a1ac8f011272b66", func := "loop.example/pub-g01470/laws.FnArgsExpanded", spec := "fnArgsExpanded", inPlace := ["internal/abi.NoEscape"], unfollowed := true, recurses := true, apart := false }
def FnArgsExpandedSaid : Prop := fnArgsExpandedRow.holds Try.pinned (OpenSpec.ofChange fnArgsExpandedSpec)

/-- ITS FALSE NEIGHBOUR: 'it returns false'. Refute it at one input. -/
def fnArgsExpandedWrong : ChangeSpec := { name := "fnArgsExpanded", fn := fun _ => fun
  | [d1, d2, d3] => { results := [.lit (.bool false)], args := [d1, d2, d3] }
  | _ => none }
def FnArgsExpandedWrongFalsely : Prop := fnArgsExpandedRow.holds Try.pinned (OpenSpec.ofChange fnArgsExpandedWrong)

/-- 'laws.FnArgsQuoted': WHATEVER THE INPUT: true; the input reads as it did. -/
def fnArgsQuotedSpec : ChangeSpec := { name := "fnArgsQuoted", fn := fun _ => fun
  | [d1, d2, d3] => { results := [.lit (.bool true)], args := [d1, d2, d3] }
  | _ => none }
def fnArgsQuotedRow : OpenClaim := { program := "ytopmkiadoacipaa", sum := "a6eedb9ebc94dcef3dd5163196389578fb8d759c0805ffb87a1ac8f011272b66", func := "loop.example/pub-g01470/laws.FnArgsQuoted", spec := "fnArgsQuoted", inPlace := ["internal/abi.NoEscape"], unfollowed := true, recurses := true, apart := false }
def FnArgsQuotedSaid : Prop := fnArgsQuotedRow.holds Try.pinned (OpenSpec.ofChange fnArgsQuotedSpec)

/-- ITS FALSE NEIGHBOUR: 'it returns false'. Refute it at one input. -/
def fnArgsQuotedWrong : ChangeSpec := { name := "fnArgsQuoted", fn := fun _ => fun
  | [d1, d2, d3] => { results := [.lit (.bool false)], args := [d1, d2, d3] }
  | _ => none }
def FnArgsQuotedWrongFalsely : Prop := fnArgsQuotedRow.holds Try.pinned (OpenSpec.ofChange fnArgsQuotedWrong)

/- THE SECOND FORM. 'bulk': how many values and letters a reading holds, each counted each time it is reached (what is shared counts as often as it is met; a slice's spare places count too). A statement '..UptoSaid' is the law's where the arguments, and the package variables that the reading takes, are together of bulk at most 1048576: NARROWER than '..Said'. Prove '..Said' where nothing that the law and all that it calls make is longer than what came in: it says more and counts as full. Else prove '..UptoSaid'. A law counts once. -/
mutual
def uptoBulk {H : Type} : DataW H → Nat
  | .lit (.string bytes) => bytes.length + 1
  | .lit _ => 1
  | .nil => 1
  | .ptr d => uptoBulk d + 1
  | .slice elems spare => uptoBulkAll elems + uptoBulkAll spare + 1
  | .agg parts => uptoBulkAll parts + 1
  | .iface _ d => uptoBulk d + 1
  | .map entries => uptoBulkEntries entries + 1
  | .held _ => 1
def uptoBulkAll {H : Type} : List (DataW H) → Nat
  | [] => 0
  | d :: r => uptoBulk d + uptoBulkAll r
def uptoBulkEntries {H : Type} : List (Lit × DataW H) → Nat
  | [] => 0
  | x :: r => uptoBulkEntry x + uptoBulkEntries r
def uptoBulkEntry {H : Type} : Lit × DataW H → Nat
  | (.string bytes, d) => bytes.length + uptoBulk d + 1
  | (_, d) => uptoBulk d + 1
 end
def uptoSmall : (H : Type) → List (DataW H) → Bool := fun _ ds => decide (uptoBulkAll ds ≤ 1048576)
def OpenSpec.upto (s : _root_.Go.ChangeSpec) : _root_.Go.OpenSpec := { _root_.Go.OpenSpec.ofChange s with cond := some uptoSmall }

/-- 'laws.FnExpandBraces', WHERE WHAT IT READS IS OF BULK AT MOST 1048576: true; the input reads as it did. -/
def fnExpandBracesUptoRow : OpenClaim := { program := "ytopmkiadoacipaa", sum := "a6eedb9ebc94dcef3dd5163196389578fb8d759c0805ffb87a1ac8f011272b66", func := "loop.example/pub-g01470/laws.FnExpandBraces", spec := "fnExpandBraces", unfollowed := true, recurses := true, apart := false, narrowed := true }
def FnExpandBracesUptoSaid : Prop := fnExpandBracesUptoRow.holds Try.pinned (OpenSpec.upto fnExpandBracesSpec)

/-- 'laws.FnExpandEach', WHERE WHAT IT READS IS OF BULK AT MOST 1048576: true; the input reads as it did. -/
def fnExpandEachUptoRow : OpenClaim := { program := "ytopmkiadoacipaa", sum := "a6eedb9ebc94dcef3dd5163196389578fb8d759c0805ffb87a1ac8f011272b66", func := "loop.example/pub-g01470/laws.FnExpandEach", spec := "fnExpandEach", unfollowed := true, recurses := true, apart := false, narrowed := true }
def FnExpandEachUptoSaid : Prop := fnExpandEachUptoRow.holds Try.pinned (OpenSpec.upto fnExpandEachSpec)

/-- 'laws.FnExpandMade', WHERE WHAT IT READS IS OF BULK AT MOST 1048576: true; the input reads as it did. -/
def fnExpandMadeUptoRow : OpenClaim := { program := "ytopmkiadoacipaa", sum := "a6eedb9ebc94dcef3dd5163196389578fb8d759c0805ffb87a1ac8f011272b66", func := "loop.example/pub-g01470/laws.FnExpandMade", spec := "fnExpandMade", unfollowed := true, recurses := true, apart := false, narrowed := true }
def FnExpandMadeUptoSaid : Prop := fnExpandMadeUptoRow.holds Try.pinned (OpenSpec.upto fnExpandMadeSpec)

/-- 'laws.FnExpandPlain', WHERE WHAT IT READS IS OF BULK AT MOST 1048576: true; the input reads as it did. -/
def fnExpandPlainUptoRow : OpenClaim := { program := "ytopmkiadoacipaa", sum := "a6eedb9ebc94dcef3dd5163196389578fb8d759c0805ffb87a1ac8f011272b66", func := "loop.example/pub-g01470/laws.FnExpandPlain", spec := "fnExpandPlain", unfollowed := true, recurses := true, apart := false, narrowed := true }
def FnExpandPlainUptoSaid : Prop := fnExpandPlainUptoRow.holds Try.pinned (OpenSpec.upto fnExpandPlainSpec)

/-- 'laws.FnEnvMade', WHERE WHAT IT READS IS OF BULK AT MOST 1048576: true; the input reads as it did. -/
def fnEnvMadeUptoRow : OpenClaim := { program := "ytopmkiadoacipaa", sum := "a6eedb9ebc94dcef3dd5163196389578fb8d759c0805ffb87a1ac8f011272b66", func := "loop.example/pub-g01470/laws.FnEnvMade", spec := "fnEnvMade", unfollowed := true, recurses := true, apart := false, narrowed := true }
def FnEnvMadeUptoSaid : Prop := fnEnvMadeUptoRow.holds Try.pinned (OpenSpec.upto fnEnvMadeSpec)

/-- 'laws.FnEnvRegexp', WHERE WHAT IT READS IS OF BULK AT MOST 1048576: true; the input reads as it did. -/
def fnEnvRegexpUptoRow : OpenClaim := { program := "ytopmkiadoacipaa", sum := "a6eedb9ebc94dcef3dd5163196389578fb8d759c0805ffb87a1ac8f011272b66", func := "loop.example/pub-g01470/laws.FnEnvRegexp", spec := "fnEnvRegexp", unfollowed := true, recurses := true, apart := false, narrowed := true }
def FnEnvRegexpUptoSaid : Prop := fnEnvRegexpUptoRow.holds Try.pinned (OpenSpec.upto fnEnvRegexpSpec)

/-- 'laws.FnArgsExpanded', WHERE WHAT IT READS IS OF BULK AT MOST 1048576: true; the input reads as it did. -/
def fnArgsExpandedUptoRow : OpenClaim := { program := "ytopmkiadoacipaa", sum := "a6eedb9ebc94dcef3dd5163196389578fb8d759c0805ffb87a1ac8f011272b66", func := "loop.example/pub-g01470/laws.FnArgsExpanded", spec := "fnArgsExpanded", inPlace := ["internal/abi.NoEscape"], unfollowed := true, recurses := true, apart := false, narrowed := true }
def FnArgsExpandedUptoSaid : Prop := fnArgsExpandedUptoRow.holds Try.pinned (OpenSpec.upto fnArgsExpandedSpec)

/-- 'laws.FnArgsQuoted', WHERE WHAT IT READS IS OF BULK AT MOST 1048576: true; the input reads as it did. -/
def fnArgsQuotedUptoRow : OpenClaim := { program := "ytopmkiadoacipaa", sum := "a6eedb9ebc94dcef3dd5163196389578fb8d759c0805ffb87a1ac8f011272b66", func := "loop.example/pub-g01470/laws.FnArgsQuoted", spec := "fnArgsQuoted", inPlace := ["internal/abi.NoEscape"], unfollowed := true, recurses := true, apart := false, narrowed := true }
def FnArgsQuotedUptoSaid : Prop := fnArgsQuotedUptoRow.holds Try.pinned (OpenSpec.upto fnArgsQuotedSpec)

end Rows
end Go.Proofs.Ytopmkiadoacipaa
