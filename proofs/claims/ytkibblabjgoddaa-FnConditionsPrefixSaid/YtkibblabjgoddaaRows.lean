/-
  No cell of these rows narrows 'for every input' (looked for: loops, veiled, ifaces, maps, wideKeys, modest, calm, conditions, laid).
  DERIVED. THE GIVEN ROWS OF THIS SEAT. 4 by the template 'for every input the law returns true; each argument reads behind the call as it read before'; 0 by the template 'total and deterministic' (their statements: YtkibblabjgoddaaTotals.lean).
  GIVEN WITH THE SEED: the statements are not yours to turn. If you find one false, say at which input.
  Laid BY PROGRAM, IN A SANDBOX (cutbox-rows.mjs): the forced cells as the released guide's own fill.sh prints them over the translation 8f6e5d194fbac31b… (all of the seat's roots in one cut). By AI agents, Wed Nov 11 2026. No macro, syntax, notation, axiom, sorry.
-/
import Derived.Test.YtkibblabjgoddaaChecked
import GoSem.Claim
import GoSem.ClaimJoined
import GoSem.ClaimMapViews
import Derived.JoinedTies
import Derived.KernelRfl
namespace Go.Proofs.Ytkibblabjgoddaa
/- THE CELL 'sum', in the pinned program and in every row, IS THE sha256 OF THE DUMP (.gsa) THAT YtkibblabjgoddaaProg.lean LOADS. Nothing in Lean hashes anything: it is a label: what it is worth is what the hold of that sum in a sandbox is worth. -/
noncomputable def Try.pinned : Pinned := { name := "ytkibblabjgoddaa", sum := "8f6e5d194fbac31baed5211a3344aff8a5ffdb5493d2ae29840d69ec0b357f41", checked := Try.checked }
namespace Rows
def none {H : Type} : Left H := { results := [], args := [] }

/-- 'laws.FnConditions': WHATEVER THE INPUT: true; the input reads as it did. -/
def fnConditionsSpec : ChangeSpec := { name := "fnConditions", fn := fun _ => fun
  | [d1, d2, d3] => { results := [.lit (.bool true)], args := [d1, d2, d3] }
  | _ => none }
def fnConditionsRow : OpenClaim := { program := "ytkibblabjgoddaa", sum := "8f6e5d194fbac31baed5211a3344aff8a5ffdb5493d2ae29840d69ec0b357f41", func := "loop.example/pub-g01470/laws.FnConditions", spec := "fnConditions", unfollowed := true, recurses := true, apart := false }
def FnConditionsSaid : Prop := fnConditionsRow.holds Try.pinned (OpenSpec.ofChange fnConditionsSpec)

/-- ITS FALSE NEIGHBOUR: 'it returns false'. Refute it at one input. -/
def fnConditionsWrong : ChangeSpec := { name := "fnConditions", fn := fun _ => fun
  | [d1, d2, d3] => { results := [.lit (.bool false)], args := [d1, d2, d3] }
  | _ => none }
def FnConditionsWrongFalsely : Prop := fnConditionsRow.holds Try.pinned (OpenSpec.ofChange fnConditionsWrong)

/-- 'laws.FnConditionsNone': WHATEVER THE INPUT: true; the input reads as it did. -/
def fnConditionsNoneSpec : ChangeSpec := { name := "fnConditionsNone", fn := fun _ => fun
  | [d] => { results := [.lit (.bool true)], args := [d] }
  | _ => none }
def fnConditionsNoneRow : OpenClaim := { program := "ytkibblabjgoddaa", sum := "8f6e5d194fbac31baed5211a3344aff8a5ffdb5493d2ae29840d69ec0b357f41", func := "loop.example/pub-g01470/laws.FnConditionsNone", spec := "fnConditionsNone", unfollowed := true, recurses := true, apart := false }
def FnConditionsNoneSaid : Prop := fnConditionsNoneRow.holds Try.pinned (OpenSpec.ofChange fnConditionsNoneSpec)

/-- ITS FALSE NEIGHBOUR: 'it returns false'. Refute it at one input. -/
def fnConditionsNoneWrong : ChangeSpec := { name := "fnConditionsNone", fn := fun _ => fun
  | [d] => { results := [.lit (.bool false)], args := [d] }
  | _ => none }
def FnConditionsNoneWrongFalsely : Prop := fnConditionsNoneRow.holds Try.pinned (OpenSpec.ofChange fnConditionsNoneWrong)

/-- 'laws.FnConditionsPrefix': WHATEVER THE INPUT: true; the input reads as it did. -/
def fnConditionsPrefixSpec : ChangeSpec := { name := "fnConditionsPrefix", fn := fun _ => fun
  | [d1, d2, d3, d4] => { results := [.lit (.bool true)], args := [d1, d2, d3, d4] }
  | _ => none }
def fnConditionsPrefixRow : OpenClaim := { program := "ytkibblabjgoddaa", sum := "8f6e5d194fbac31baed5211a3344aff8a5ffdb5493d2ae29840d69ec0b357f41", func := "loop.example/pub-g01470/laws.FnConditionsPrefix", spec := "fnConditionsPrefix", unfollowed := true, recurses := true, apart := false }
def FnConditionsPrefixSaid : Prop := fnConditionsPrefixRow.holds Try.pinned (OpenSpec.ofChange fnConditionsPrefixSpec)

/-- ITS FALSE NEIGHBOUR: 'it returns false'. Refute it at one input. -/
def fnConditionsPrefixWrong : ChangeSpec := { name := "fnConditionsPrefix", fn := fun _ => fun
  | [d1, d2, d3, d4] => { results := [.lit (.bool false)], args := [d1, d2, d3, d4] }
  | _ => none }
def FnConditionsPrefixWrongFalsely : Prop := fnConditionsPrefixRow.holds Try.pinned (OpenSpec.ofChange fnConditionsPrefixWrong)

/-- 'laws.FnConditionsUnknown': WHATEVER THE INPUT: true; the input reads as it did. -/
def fnConditionsUnknownSpec : ChangeSpec := { name := "fnConditionsUnknown", fn := fun _ => fun
  | [d1, d2] => { results := [.lit (.bool true)], args := [d1, d2] }
  | _ => none }
def fnConditionsUnknownRow : OpenClaim := { program := "ytkibblabjgoddaa", sum := "8f6e5d194fbac31baed5211a3344aff8a5ffdb5493d2ae29840d69ec0b357f41", func := "loop.example/pub-g01470/laws.FnConditionsUnknown", spec := "fnConditionsUnknown", unfollowed := true, recurses := true, apart := false }
def FnConditionsUnknownSaid : Prop := fnConditionsUnknownRow.holds Try.pinned (OpenSpec.ofChange fnConditionsUnknownSpec)

/-- ITS FALSE NEIGHBOUR: 'it returns false'. Refute it at one input. -/
def fnConditionsUnknownWrong : ChangeSpec := { name := "fnConditionsUnknown", fn := fun _ => fun
  | [d1, d2] => { results := [.lit (.bool false)], args := [d1, d2] }
  | _ => none }
def FnConditionsUnknownWrongFalsely : Prop := fnConditionsUnknownRow.holds Try.pinned (OpenSpec.ofChange fnConditionsUnknownWrong)

/- THE SECOND FORM. 'bulk': how many values and letters a reading holds, each counted each time it is reached (what is shared counts as often as it is met; a slice's spare places count too). A statement '..UptoSaid' is the law's where the arguments, and the package variables that the reading takes, are together of bulk at most 1048576: NARROWER than '..Said'. Prove '..Said' where nothing that the law and all that it calls make is longer than what came in: it says more and counts as full. Else prove '..UptoSaid'. A law counts once. -/
mutual
def uptoBulk {H : Type} : DataW H → Nat
  | .lit (.string bytes) => bytes.length + 1
  | .lit _ => 1
  | .nil => 1
  | .ptr d => uptoBulk d + 1
  | .slice elems spare => uptoBulkAll elems + uptoBulkAll spare + 1
  | .agg parts => uptoBulkAll parts + 1
  | .iface _ d => uptoBulk d + 1
  | .map entries => uptoBulkEntries entries + 1
  | .held _ => 1
def uptoBulkAll {H : Type} : List (DataW H) → Nat
  | [] => 0
  | d :: r => uptoBulk d + uptoBulkAll r
def uptoBulkEntries {H : Type} : List (Lit × DataW H) → Nat
  | [] => 0
  | x :: r => uptoBulkEntry x + uptoBulkEntries r
def uptoBulkEntry {H : Type} : Lit × DataW H → Nat
  | (.string bytes, d) => bytes.length + uptoBulk d + 1
  | (_, d) => uptoBulk d + 1
 end
def uptoSmall : (H : Type) → List (DataW H) → Bool := fun _ ds => decide (uptoBulkAll ds ≤ 1048576)
def OpenSpec.upto (s : _root_.Go.ChangeSpec) : _root_.Go.OpenSpec := { _root_.Go.OpenSpec.ofChange s with cond := some uptoSmall }

/-- 'laws.FnConditions', WHERE WHAT IT READS IS OF BULK AT MOST 1048576: true; the input reads as it did. -/
def fnConditionsUptoRow : OpenClaim := { program := "ytkibblabjgoddaa", sum := "8f6e5d194fbac31baed5211a3344aff8a5ffdb5493d2ae29840d69ec0b357f41", func := "loop.example/pub-g01470/laws.FnConditions", spec := "fnConditions", unfollowed := true, recurses := true, apart := false, narrowed := true }
def FnConditionsUptoSaid : Prop := fnConditionsUptoRow.holds Try.pinned (OpenSpec.upto fnConditionsSpec)

/-- 'laws.FnConditionsNone', WHERE WHAT IT READS IS OF BULK AT MOST 1048576: true; the input reads as it did. -/
def fnConditionsNoneUptoRow : OpenClaim := { program := "ytkibblabjgoddaa", sum := "8f6e5d194fbac31baed5211a3344aff8a5ffdb5493d2ae29840d69ec0b357f41", func := "loop.example/pub-g01470/laws.FnConditionsNone", spec := "fnConditionsNone", unfollowed := true, recurses := true, apart := false, narrowed := true }
def FnConditionsNoneUptoSaid : Prop := fnConditionsNoneUptoRow.holds Try.pinned (OpenSpec.upto fnConditionsNoneSpec)

/-- 'laws.FnConditionsPrefix', WHERE WHAT IT READS IS OF BULK AT MOST 1048576: true; the input reads as it did. -/
def fnConditionsPrefixUptoRow : OpenClaim := { program := "ytkibblabjgoddaa", sum := "8f6e5d194fbac31baed5211a3344aff8a5ffdb5493d2ae29840d69ec0b357f41", func := "loop.example/pub-g01470/laws.FnConditionsPrefix", spec := "fnConditionsPrefix", unfollowed := true, recurses := true, apart := false, narrowed := true }
def FnConditionsPrefixUptoSaid : Prop := fnConditionsPrefixUptoRow.holds Try.pinned (OpenSpec.upto fnConditionsPrefixSpec)

/-- 'laws.FnConditionsUnknown', WHERE WHAT IT READS IS OF BULK AT MOST 1048576: true; the input reads as it did. -/
def fnConditionsUnknownUptoRow : OpenClaim := { program := "ytkibblabjgoddaa", sum := "8f6e5d194fbac31baed5211a3344aff8a5ffdb5493d2ae29840d69ec0b357f41", func := "loop.example/pub-g01470/laws.FnConditionsUnknown", spec := "fnConditionsUnknown", unfollowed := true, recurses := true, apart := false, narrowed := true }
def FnConditionsUnknownUptoSaid : Prop := fnConditionsUnknownUptoRow.holds Try.pinned (OpenSpec.upto fnConditionsUnknownSpec)

end Rows
end Go.Proofs.Ytkibblabjgoddaa
