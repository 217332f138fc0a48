/-
  DERIVED. GIVEN WITH THE SEED: THE CARDS: each row of YtodofpjdcongnaaDoorRows.lean that lists a variable, with what it lists TIED to the program's text (the seventh form; the later family's looks); each row that meets fmt, with fmt's text TOLD by the authors' own Lean function (tested against real Go, not proved from fmt's source: count such statements apart). THE CARD IS WHAT COUNTS. Prove the row's statement (the work); the ties are given (YtodofpjdcongnaaDoorTie.lean); close each card by the builder's one call (the guide's Derived/Test/ToyasCard.lean, 'card_holds'). Laid BY PROGRAM, IN A SANDBOX (cutbox-door.mjs). By AI agents, Wed Nov 11 2026. No macro, syntax, notation, axiom, sorry.
-/
import Derived.Test.YtodofpjdcongnaaDoorRows
import GoSem.ClaimSeven
namespace Go.Proofs.YtodofpjdcongnaaDoor
namespace Rows

/-- THE TIED CARD OF 'laws.FnSignHeaders'. -/
def fnSignHeadersCard : Claim7 := { stood := { row := fnSignHeadersRow, standIns := [], harness := (true, "610b8f97be3c77f62bb191999b1658618e4c1534b58d27a655c35adef273a090"), looks := true }, kinds := [], alts := [], laidByText := true, laidKinds := [.sentinel, .sentinel, .sentinel], laidTests := true, laidLooks := .later }
def FnSignHeadersCardSaid : Prop := Claim7.holds Tryd.pinned (.plain (OpenSpec.ofChange fnSignHeadersSpec)) fnSignHeadersCard

/-- THE TIED CARD OF 'laws.FnSign'. -/
def fnSignCard : Claim7 := { stood := { row := fnSignRow, standIns := [], harness := (true, "610b8f97be3c77f62bb191999b1658618e4c1534b58d27a655c35adef273a090"), looks := true }, kinds := [], alts := [], laidByText := true, laidKinds := [.sentinel, .sentinel, .sentinel], laidTests := true, laidLooks := .later }
def FnSignCardSaid : Prop := Claim7.holds Tryd.pinned (.plain (OpenSpec.ofChange fnSignSpec)) fnSignCard

/-- THE TIED CARD OF 'laws.FnSignPage'. -/
def fnSignPageCard : Claim7 := { stood := { row := fnSignPageRow, standIns := [], harness := (true, "610b8f97be3c77f62bb191999b1658618e4c1534b58d27a655c35adef273a090"), looks := true }, kinds := [], alts := [], laidByText := true, laidKinds := [.sentinel, .sentinel, .sentinel], laidTests := true, laidLooks := .later }
def FnSignPageCardSaid : Prop := Claim7.holds Tryd.pinned (.plain (OpenSpec.ofChange fnSignPageSpec)) fnSignPageCard

/-- THE TIED CARD OF 'laws.FnSignReader'. -/
def fnSignReaderCard : Claim7 := { stood := { row := fnSignReaderRow, standIns := [], harness := (true, "610b8f97be3c77f62bb191999b1658618e4c1534b58d27a655c35adef273a090"), looks := true }, kinds := [], alts := [], laidByText := true, laidKinds := [.sentinel, .sentinel, .sentinel], laidTests := true, laidLooks := .later }
def FnSignReaderCardSaid : Prop := Claim7.holds Tryd.pinned (.plain (OpenSpec.ofChange fnSignReaderSpec)) fnSignReaderCard

/-- THE TIED CARD OF 'laws.FnSignLength'. -/
def fnSignLengthCard : Claim7 := { stood := { row := fnSignLengthRow, standIns := [], harness := (true, "610b8f97be3c77f62bb191999b1658618e4c1534b58d27a655c35adef273a090"), looks := true }, kinds := [], alts := [], laidByText := true, laidKinds := [.sentinel, .sentinel, .sentinel], laidTests := true, laidLooks := .later }
def FnSignLengthCardSaid : Prop := Claim7.holds Tryd.pinned (.plain (OpenSpec.ofChange fnSignLengthSpec)) fnSignLengthCard

/-- THE SECOND FORM's CARD OF 'laws.FnSignHeaders'. -/
def fnSignHeadersUptoCard : Claim7 := { stood := { row := fnSignHeadersUptoRow, standIns := [], harness := (true, "610b8f97be3c77f62bb191999b1658618e4c1534b58d27a655c35adef273a090"), looks := true }, kinds := [], alts := [], laidByText := true, laidKinds := [.sentinel, .sentinel, .sentinel], laidTests := true, laidLooks := .later }
def FnSignHeadersUptoCardSaid : Prop := Claim7.holds Tryd.pinned (.plain (OpenSpec.upto fnSignHeadersSpec)) fnSignHeadersUptoCard

/-- THE SECOND FORM's CARD OF 'laws.FnSign'. -/
def fnSignUptoCard : Claim7 := { stood := { row := fnSignUptoRow, standIns := [], harness := (true, "610b8f97be3c77f62bb191999b1658618e4c1534b58d27a655c35adef273a090"), looks := true }, kinds := [], alts := [], laidByText := true, laidKinds := [.sentinel, .sentinel, .sentinel], laidTests := true, laidLooks := .later }
def FnSignUptoCardSaid : Prop := Claim7.holds Tryd.pinned (.plain (OpenSpec.upto fnSignSpec)) fnSignUptoCard

/-- THE SECOND FORM's CARD OF 'laws.FnSignPage'. -/
def fnSignPageUptoCard : Claim7 := { stood := { row := fnSignPageUptoRow, standIns := [], harness := (true, "610b8f97be3c77f62bb191999b1658618e4c1534b58d27a655c35adef273a090"), looks := true }, kinds := [], alts := [], laidByText := true, laidKinds := [.sentinel, .sentinel, .sentinel], laidTests := true, laidLooks := .later }
def FnSignPageUptoCardSaid : Prop := Claim7.holds Tryd.pinned (.plain (OpenSpec.upto fnSignPageSpec)) fnSignPageUptoCard

/-- THE SECOND FORM's CARD OF 'laws.FnSignReader'. -/
def fnSignReaderUptoCard : Claim7 := { stood := { row := fnSignReaderUptoRow, standIns := [], harness := (true, "610b8f97be3c77f62bb191999b1658618e4c1534b58d27a655c35adef273a090"), looks := true }, kinds := [], alts := [], laidByText := true, laidKinds := [.sentinel, .sentinel, .sentinel], laidTests := true, laidLooks := .later }
def FnSignReaderUptoCardSaid : Prop := Claim7.holds Tryd.pinned (.plain (OpenSpec.upto fnSignReaderSpec)) fnSignReaderUptoCard

/-- THE SECOND FORM's CARD OF 'laws.FnSignLength'. -/
def fnSignLengthUptoCard : Claim7 := { stood := { row := fnSignLengthUptoRow, standIns := [], harness := (true, "610b8f97be3c77f62bb191999b1658618e4c1534b58d27a655c35adef273a090"), looks := true }, kinds := [], alts := [], laidByText := true, laidKinds := [.sentinel, .sentinel, .sentinel], laidTests := true, laidLooks := .later }
def FnSignLengthUptoCardSaid : Prop := Claim7.holds Tryd.pinned (.plain (OpenSpec.upto fnSignLengthSpec)) fnSignLengthUptoCard
end Rows
end Go.Proofs.YtodofpjdcongnaaDoor
