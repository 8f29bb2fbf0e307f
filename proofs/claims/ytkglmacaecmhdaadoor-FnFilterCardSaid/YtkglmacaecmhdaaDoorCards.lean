/-
  DERIVED. GIVEN WITH THE SEED: THE CARDS: each row of YtkglmacaecmhdaaDoorRows.lean that lists a variable, with what it lists TIED to the program's text (the seventh form; the later family's looks); each row that meets fmt, with fmt's text TOLD by the authors' own Lean function (tested against real Go, not proved from fmt's source: count such statements apart). THE CARD IS WHAT COUNTS. Prove the row's statement (the work); the ties are given (YtkglmacaecmhdaaDoorTie.lean); close each card by the builder's one call (the guide's Derived/Test/ToyasCard.lean, 'card_holds'). Laid BY PROGRAM, IN A SANDBOX (cutbox-door.mjs). By AI agents, Wed Nov 11 2026. No macro, syntax, notation, axiom, sorry.
-/
import Derived.Test.YtkglmacaecmhdaaDoorRows
import GoSem.ClaimSeven
namespace Go.Proofs.YtkglmacaecmhdaaDoor
namespace Rows

/-- THE TIED CARD OF 'laws.FnLengthAny'. -/
def fnLengthAnyCard : Claim7 := { stood := { row := fnLengthAnyRow, standIns := [], harness := (true, "9c4cfbe201775fdbc1e1d3dab9b067954222f9a783b7d9c976b181b6563e3505"), looks := false }, kinds := [], alts := [], laidByText := true, laidKinds := [.data], laidTests := true, laidLooks := .later }
def FnLengthAnyCardSaid : Prop := Claim7.holds Tryd.pinned (.plain (OpenSpec.ofChange fnLengthAnySpec)) fnLengthAnyCard

/-- THE TIED CARD OF 'laws.FnLength'. -/
def fnLengthCard : Claim7 := { stood := { row := fnLengthRow, standIns := [], harness := (true, "9c4cfbe201775fdbc1e1d3dab9b067954222f9a783b7d9c976b181b6563e3505"), looks := false }, kinds := [], alts := [], laidByText := true, laidKinds := [.data], laidTests := true, laidLooks := .later }
def FnLengthCardSaid : Prop := Claim7.holds Tryd.pinned (.plain (OpenSpec.ofChange fnLengthSpec)) fnLengthCard

/-- THE TIED CARD OF 'laws.FnHeader'. -/
def fnHeaderCard : Claim7 := { stood := { row := fnHeaderRow, standIns := [], harness := (true, "9c4cfbe201775fdbc1e1d3dab9b067954222f9a783b7d9c976b181b6563e3505"), looks := false }, kinds := [], alts := [], laidByText := true, laidKinds := [.data, .data, .data, .data], laidTests := true, laidLooks := .later }
def FnHeaderCardSaid : Prop := Claim7.holds Tryd.pinned (.plain (OpenSpec.ofChange fnHeaderSpec)) fnHeaderCard

/-- THE TIED CARD OF 'laws.FnShared'. -/
def fnSharedCard : Claim7 := { stood := { row := fnSharedRow, standIns := [], harness := (true, "9c4cfbe201775fdbc1e1d3dab9b067954222f9a783b7d9c976b181b6563e3505"), looks := false }, kinds := [], alts := [], laidByText := true, laidKinds := [.data, .data, .data, .data, .pinned, .pinned], laidTests := true, laidLooks := .later }
def FnSharedCardSaid : Prop := Claim7.holds Tryd.pinned (.plain (OpenSpec.ofChange fnSharedSpec)) fnSharedCard

/-- THE TIED CARD OF 'laws.FnFilter'. -/
def fnFilterCard : Claim7 := { stood := { row := fnFilterRow, standIns := [], harness := (true, "9c4cfbe201775fdbc1e1d3dab9b067954222f9a783b7d9c976b181b6563e3505"), looks := false }, kinds := [], alts := [], laidByText := true, laidKinds := [.data, .data, .data, .data, .pinned, .pinned], laidTests := true, laidLooks := .later }
def FnFilterCardSaid : Prop := Claim7.holds Tryd.pinned (.plain (OpenSpec.ofChange fnFilterSpec)) fnFilterCard

/-- THE TIED CARD OF 'laws.FnTopicName'. -/
def fnTopicNameCard : Claim7 := { stood := { row := fnTopicNameRow, standIns := [], harness := (true, "9c4cfbe201775fdbc1e1d3dab9b067954222f9a783b7d9c976b181b6563e3505"), looks := false }, kinds := [], alts := [], laidByText := true, laidKinds := [.data, .data, .data, .data, .pinned, .pinned], laidTests := true, laidLooks := .later }
def FnTopicNameCardSaid : Prop := Claim7.holds Tryd.pinned (.plain (OpenSpec.ofChange fnTopicNameSpec)) fnTopicNameCard

/-- THE TIED CARD OF 'laws.FnProperties'. -/
def fnPropertiesCard : Claim7 := { stood := { row := fnPropertiesRow, standIns := [], harness := (true, "9c4cfbe201775fdbc1e1d3dab9b067954222f9a783b7d9c976b181b6563e3505"), looks := false }, kinds := [], alts := [], laidByText := true, laidKinds := [.data, .data, .data, .data, .data, .data, .data, .pinned], laidTests := true, laidLooks := .later }
def FnPropertiesCardSaid : Prop := Claim7.holds Tryd.pinned (.plain (OpenSpec.ofChange fnPropertiesSpec)) fnPropertiesCard

/-- THE TIED CARD OF 'laws.FnEncode'. -/
def fnEncodeCard : Claim7 := { stood := { row := fnEncodeRow, standIns := [], harness := (true, "9c4cfbe201775fdbc1e1d3dab9b067954222f9a783b7d9c976b181b6563e3505"), looks := false }, kinds := [], alts := [], laidByText := true, laidKinds := [.data, .data, .data], laidTests := true, laidLooks := .later }
def FnEncodeCardSaid : Prop := Claim7.holds Tryd.pinned (.plain (OpenSpec.ofChange fnEncodeSpec)) fnEncodeCard

/-- THE TIED CARD OF 'laws.FnDecode'. -/
def fnDecodeCard : Claim7 := { stood := { row := fnDecodeRow, standIns := [], harness := (true, "9c4cfbe201775fdbc1e1d3dab9b067954222f9a783b7d9c976b181b6563e3505"), looks := false }, kinds := [], alts := [], laidByText := true, laidKinds := [.data, .data, .data, .data, .data, .data, .data, .data, .data, .data, .data, .data, .data, .data, .data, .data, .data, .data, .data, .data, .data, .data, .data, .data, .data, .data, .data, .pinned], laidTests := true, laidLooks := .later }
def FnDecodeCardSaid : Prop := Claim7.holds Tryd.pinned (.plain (OpenSpec.ofChange fnDecodeSpec)) fnDecodeCard

/-- THE TIED CARD OF 'laws.FnTruncated'. -/
def fnTruncatedCard : Claim7 := { stood := { row := fnTruncatedRow, standIns := [], harness := (true, "9c4cfbe201775fdbc1e1d3dab9b067954222f9a783b7d9c976b181b6563e3505"), looks := false }, kinds := [], alts := [], laidByText := true, laidKinds := [.data, .data, .data, .data, .data, .data, .data, .data, .data, .data, .data, .data, .data, .data, .data, .data, .data, .data, .data, .data, .data, .data, .data, .data, .data, .data, .data, .pinned], laidTests := true, laidLooks := .later }
def FnTruncatedCardSaid : Prop := Claim7.holds Tryd.pinned (.plain (OpenSpec.ofChange fnTruncatedSpec)) fnTruncatedCard

/-- THE SECOND FORM's CARD OF 'laws.FnLengthAny'. -/
def fnLengthAnyUptoCard : Claim7 := { stood := { row := fnLengthAnyUptoRow, standIns := [], harness := (true, "9c4cfbe201775fdbc1e1d3dab9b067954222f9a783b7d9c976b181b6563e3505"), looks := false }, kinds := [], alts := [], laidByText := true, laidKinds := [.data], laidTests := true, laidLooks := .later }
def FnLengthAnyUptoCardSaid : Prop := Claim7.holds Tryd.pinned (.plain (OpenSpec.upto fnLengthAnySpec)) fnLengthAnyUptoCard

/-- THE SECOND FORM's CARD OF 'laws.FnLength'. -/
def fnLengthUptoCard : Claim7 := { stood := { row := fnLengthUptoRow, standIns := [], harness := (true, "9c4cfbe201775fdbc1e1d3dab9b067954222f9a783b7d9c976b181b6563e3505"), looks := false }, kinds := [], alts := [], laidByText := true, laidKinds := [.data], laidTests := true, laidLooks := .later }
def FnLengthUptoCardSaid : Prop := Claim7.holds Tryd.pinned (.plain (OpenSpec.upto fnLengthSpec)) fnLengthUptoCard

/-- THE SECOND FORM's CARD OF 'laws.FnHeader'. -/
def fnHeaderUptoCard : Claim7 := { stood := { row := fnHeaderUptoRow, standIns := [], harness := (true, "9c4cfbe201775fdbc1e1d3dab9b067954222f9a783b7d9c976b181b6563e3505"), looks := false }, kinds := [], alts := [], laidByText := true, laidKinds := [.data, .data, .data, .data], laidTests := true, laidLooks := .later }
def FnHeaderUptoCardSaid : Prop := Claim7.holds Tryd.pinned (.plain (OpenSpec.upto fnHeaderSpec)) fnHeaderUptoCard

/-- THE SECOND FORM's CARD OF 'laws.FnShared'. -/
def fnSharedUptoCard : Claim7 := { stood := { row := fnSharedUptoRow, standIns := [], harness := (true, "9c4cfbe201775fdbc1e1d3dab9b067954222f9a783b7d9c976b181b6563e3505"), looks := false }, kinds := [], alts := [], laidByText := true, laidKinds := [.data, .data, .data, .data, .pinned, .pinned], laidTests := true, laidLooks := .later }
def FnSharedUptoCardSaid : Prop := Claim7.holds Tryd.pinned (.plain (OpenSpec.upto fnSharedSpec)) fnSharedUptoCard

/-- THE SECOND FORM's CARD OF 'laws.FnFilter'. -/
def fnFilterUptoCard : Claim7 := { stood := { row := fnFilterUptoRow, standIns := [], harness := (true, "9c4cfbe201775fdbc1e1d3dab9b067954222f9a783b7d9c976b181b6563e3505"), looks := false }, kinds := [], alts := [], laidByText := true, laidKinds := [.data, .data, .data, .data, .pinned, .pinned], laidTests := true, laidLooks := .later }
def FnFilterUptoCardSaid : Prop := Claim7.holds Tryd.pinned (.plain (OpenSpec.upto fnFilterSpec)) fnFilterUptoCard

/-- THE SECOND FORM's CARD OF 'laws.FnTopicName'. -/
def fnTopicNameUptoCard : Claim7 := { stood := { row := fnTopicNameUptoRow, standIns := [], harness := (true, "9c4cfbe201775fdbc1e1d3dab9b067954222f9a783b7d9c976b181b6563e3505"), looks := false }, kinds := [], alts := [], laidByText := true, laidKinds := [.data, .data, .data, .data, .pinned, .pinned], laidTests := true, laidLooks := .later }
def FnTopicNameUptoCardSaid : Prop := Claim7.holds Tryd.pinned (.plain (OpenSpec.upto fnTopicNameSpec)) fnTopicNameUptoCard

/-- THE SECOND FORM's CARD OF 'laws.FnProperties'. -/
def fnPropertiesUptoCard : Claim7 := { stood := { row := fnPropertiesUptoRow, standIns := [], harness := (true, "9c4cfbe201775fdbc1e1d3dab9b067954222f9a783b7d9c976b181b6563e3505"), looks := false }, kinds := [], alts := [], laidByText := true, laidKinds := [.data, .data, .data, .data, .data, .data, .data, .pinned], laidTests := true, laidLooks := .later }
def FnPropertiesUptoCardSaid : Prop := Claim7.holds Tryd.pinned (.plain (OpenSpec.upto fnPropertiesSpec)) fnPropertiesUptoCard

/-- THE SECOND FORM's CARD OF 'laws.FnEncode'. -/
def fnEncodeUptoCard : Claim7 := { stood := { row := fnEncodeUptoRow, standIns := [], harness := (true, "9c4cfbe201775fdbc1e1d3dab9b067954222f9a783b7d9c976b181b6563e3505"), looks := false }, kinds := [], alts := [], laidByText := true, laidKinds := [.data, .data, .data], laidTests := true, laidLooks := .later }
def FnEncodeUptoCardSaid : Prop := Claim7.holds Tryd.pinned (.plain (OpenSpec.upto fnEncodeSpec)) fnEncodeUptoCard

/-- THE SECOND FORM's CARD OF 'laws.FnDecode'. -/
def fnDecodeUptoCard : Claim7 := { stood := { row := fnDecodeUptoRow, standIns := [], harness := (true, "9c4cfbe201775fdbc1e1d3dab9b067954222f9a783b7d9c976b181b6563e3505"), looks := false }, kinds := [], alts := [], laidByText := true, laidKinds := [.data, .data, .data, .data, .data, .data, .data, .data, .data, .data, .data, .data, .data, .data, .data, .data, .data, .data, .data, .data, .data, .data, .data, .data, .data, .data, .data, .pinned], laidTests := true, laidLooks := .later }
def FnDecodeUptoCardSaid : Prop := Claim7.holds Tryd.pinned (.plain (OpenSpec.upto fnDecodeSpec)) fnDecodeUptoCard

/-- THE SECOND FORM's CARD OF 'laws.FnTruncated'. -/
def fnTruncatedUptoCard : Claim7 := { stood := { row := fnTruncatedUptoRow, standIns := [], harness := (true, "9c4cfbe201775fdbc1e1d3dab9b067954222f9a783b7d9c976b181b6563e3505"), looks := false }, kinds := [], alts := [], laidByText := true, laidKinds := [.data, .data, .data, .data, .data, .data, .data, .data, .data, .data, .data, .data, .data, .data, .data, .data, .data, .data, .data, .data, .data, .data, .data, .data, .data, .data, .data, .pinned], laidTests := true, laidLooks := .later }
def FnTruncatedUptoCardSaid : Prop := Claim7.holds Tryd.pinned (.plain (OpenSpec.upto fnTruncatedSpec)) fnTruncatedUptoCard
end Rows
end Go.Proofs.YtkglmacaecmhdaaDoor
