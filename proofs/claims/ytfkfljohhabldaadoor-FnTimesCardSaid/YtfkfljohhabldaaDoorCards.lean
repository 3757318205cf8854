/-
  DERIVED. GIVEN WITH THE SEED: THE CARDS: each row of YtfkfljohhabldaaDoorRows.lean that lists a variable, with what it lists TIED to the program's text (the seventh form; the later family's looks); each row that meets fmt, with fmt's text TOLD by the authors' own Lean function (tested against real Go, not proved from fmt's source: count such statements apart). THE CARD IS WHAT COUNTS. Prove the row's statement (the work); the ties are given (YtfkfljohhabldaaDoorTie.lean); close each card by the builder's one call (the guide's Derived/Test/ToyasCard.lean, 'card_holds'). Laid BY PROGRAM, IN A SANDBOX (cutbox-door.mjs). By AI agents, Wed Nov 11 2026. No macro, syntax, notation, axiom, sorry.
-/
import Derived.Test.YtfkfljohhabldaaDoorRows
import GoSem.ClaimSeven
namespace Go.Proofs.YtfkfljohhabldaaDoor
namespace Rows

/-- THE TIED CARD OF 'laws.FnFpBytes'. -/
def fnFpBytesCard : Claim7 := { stood := { row := fnFpBytesRow, standIns := [], harness := (true, "d078553837e0fa79d54092f4700823785b0db61e7879b2c08a10042c0b32d53d"), looks := false }, kinds := [], alts := [], laidByText := true, laidKinds := [.data], laidTests := true, laidLooks := .later }
def FnFpBytesCardSaid : Prop := Claim7.holds Tryd.pinned (.plain (OpenSpec.ofChange fnFpBytesSpec)) fnFpBytesCard

/-- THE TIED CARD OF 'laws.FnIsIdentity'. -/
def fnIsIdentityCard : Claim7 := { stood := { row := fnIsIdentityRow, standIns := [], harness := (true, "d078553837e0fa79d54092f4700823785b0db61e7879b2c08a10042c0b32d53d"), looks := false }, kinds := [], alts := [], laidByText := true, laidKinds := [.data], laidTests := true, laidLooks := .later }
def FnIsIdentityCardSaid : Prop := Claim7.holds Tryd.pinned (.plain (OpenSpec.ofChange fnIsIdentitySpec)) fnIsIdentityCard

/-- THE TIED CARD OF 'laws.FnPlus'. -/
def fnPlusCard : Claim7 := { stood := { row := fnPlusRow, standIns := [], harness := (true, "d078553837e0fa79d54092f4700823785b0db61e7879b2c08a10042c0b32d53d"), looks := false }, kinds := [], alts := [], laidByText := true, laidKinds := [.data, .data], laidTests := true, laidLooks := .later }
def FnPlusCardSaid : Prop := Claim7.holds Tryd.pinned (.plain (OpenSpec.ofChange fnPlusSpec)) fnPlusCard

/-- THE TIED CARD OF 'laws.FnFqSqrt'. -/
def fnFqSqrtCard : Claim7 := { stood := { row := fnFqSqrtRow, standIns := [], harness := (true, "d078553837e0fa79d54092f4700823785b0db61e7879b2c08a10042c0b32d53d"), looks := false }, kinds := [], alts := [], laidByText := true, laidKinds := [.data], laidTests := true, laidLooks := .later }
def FnFqSqrtCardSaid : Prop := Claim7.holds Tryd.pinned (.plain (OpenSpec.ofChange fnFqSqrtSpec)) fnFqSqrtCard

/-- THE TIED CARD OF 'laws.FnBase'. -/
def fnBaseCard : Claim7 := { stood := { row := fnBaseRow, standIns := [], harness := (true, "d078553837e0fa79d54092f4700823785b0db61e7879b2c08a10042c0b32d53d"), looks := false }, kinds := [], alts := [], laidByText := true, laidKinds := [.data, .data, .data, .data, .data], laidTests := true, laidLooks := .later }
def FnBaseCardSaid : Prop := Claim7.holds Tryd.pinned (.plain (OpenSpec.ofChange fnBaseSpec)) fnBaseCard

/-- THE TIED CARD OF 'laws.FnGroup'. -/
def fnGroupCard : Claim7 := { stood := { row := fnGroupRow, standIns := [], harness := (true, "d078553837e0fa79d54092f4700823785b0db61e7879b2c08a10042c0b32d53d"), looks := false }, kinds := [], alts := [], laidByText := true, laidKinds := [.data, .data, .data, .data], laidTests := true, laidLooks := .later }
def FnGroupCardSaid : Prop := Claim7.holds Tryd.pinned (.plain (OpenSpec.ofChange fnGroupSpec)) fnGroupCard

/-- THE TIED CARD OF 'laws.FnEncode'. -/
def fnEncodeCard : Claim7 := { stood := { row := fnEncodeRow, standIns := [], harness := (true, "d078553837e0fa79d54092f4700823785b0db61e7879b2c08a10042c0b32d53d"), looks := false }, kinds := [], alts := [], laidByText := true, laidKinds := [.data, .data], laidTests := true, laidLooks := .later }
def FnEncodeCardSaid : Prop := Claim7.holds Tryd.pinned (.plain (OpenSpec.ofChange fnEncodeSpec)) fnEncodeCard

/-- THE TIED CARD OF 'laws.FnTimes'. -/
def fnTimesCard : Claim7 := { stood := { row := fnTimesRow, standIns := [], harness := (true, "d078553837e0fa79d54092f4700823785b0db61e7879b2c08a10042c0b32d53d"), looks := false }, kinds := [], alts := [], laidByText := true, laidKinds := [.data, .data, .data], laidTests := true, laidLooks := .later }
def FnTimesCardSaid : Prop := Claim7.holds Tryd.pinned (.plain (OpenSpec.ofChange fnTimesSpec)) fnTimesCard

/-- THE SECOND FORM's CARD OF 'laws.FnFpBytes'. -/
def fnFpBytesUptoCard : Claim7 := { stood := { row := fnFpBytesUptoRow, standIns := [], harness := (true, "d078553837e0fa79d54092f4700823785b0db61e7879b2c08a10042c0b32d53d"), looks := false }, kinds := [], alts := [], laidByText := true, laidKinds := [.data], laidTests := true, laidLooks := .later }
def FnFpBytesUptoCardSaid : Prop := Claim7.holds Tryd.pinned (.plain (OpenSpec.upto fnFpBytesSpec)) fnFpBytesUptoCard

/-- THE SECOND FORM's CARD OF 'laws.FnIsIdentity'. -/
def fnIsIdentityUptoCard : Claim7 := { stood := { row := fnIsIdentityUptoRow, standIns := [], harness := (true, "d078553837e0fa79d54092f4700823785b0db61e7879b2c08a10042c0b32d53d"), looks := false }, kinds := [], alts := [], laidByText := true, laidKinds := [.data], laidTests := true, laidLooks := .later }
def FnIsIdentityUptoCardSaid : Prop := Claim7.holds Tryd.pinned (.plain (OpenSpec.upto fnIsIdentitySpec)) fnIsIdentityUptoCard

/-- THE SECOND FORM's CARD OF 'laws.FnPlus'. -/
def fnPlusUptoCard : Claim7 := { stood := { row := fnPlusUptoRow, standIns := [], harness := (true, "d078553837e0fa79d54092f4700823785b0db61e7879b2c08a10042c0b32d53d"), looks := false }, kinds := [], alts := [], laidByText := true, laidKinds := [.data, .data], laidTests := true, laidLooks := .later }
def FnPlusUptoCardSaid : Prop := Claim7.holds Tryd.pinned (.plain (OpenSpec.upto fnPlusSpec)) fnPlusUptoCard

/-- THE SECOND FORM's CARD OF 'laws.FnFqSqrt'. -/
def fnFqSqrtUptoCard : Claim7 := { stood := { row := fnFqSqrtUptoRow, standIns := [], harness := (true, "d078553837e0fa79d54092f4700823785b0db61e7879b2c08a10042c0b32d53d"), looks := false }, kinds := [], alts := [], laidByText := true, laidKinds := [.data], laidTests := true, laidLooks := .later }
def FnFqSqrtUptoCardSaid : Prop := Claim7.holds Tryd.pinned (.plain (OpenSpec.upto fnFqSqrtSpec)) fnFqSqrtUptoCard

/-- THE SECOND FORM's CARD OF 'laws.FnBase'. -/
def fnBaseUptoCard : Claim7 := { stood := { row := fnBaseUptoRow, standIns := [], harness := (true, "d078553837e0fa79d54092f4700823785b0db61e7879b2c08a10042c0b32d53d"), looks := false }, kinds := [], alts := [], laidByText := true, laidKinds := [.data, .data, .data, .data, .data], laidTests := true, laidLooks := .later }
def FnBaseUptoCardSaid : Prop := Claim7.holds Tryd.pinned (.plain (OpenSpec.upto fnBaseSpec)) fnBaseUptoCard

/-- THE SECOND FORM's CARD OF 'laws.FnGroup'. -/
def fnGroupUptoCard : Claim7 := { stood := { row := fnGroupUptoRow, standIns := [], harness := (true, "d078553837e0fa79d54092f4700823785b0db61e7879b2c08a10042c0b32d53d"), looks := false }, kinds := [], alts := [], laidByText := true, laidKinds := [.data, .data, .data, .data], laidTests := true, laidLooks := .later }
def FnGroupUptoCardSaid : Prop := Claim7.holds Tryd.pinned (.plain (OpenSpec.upto fnGroupSpec)) fnGroupUptoCard

/-- THE SECOND FORM's CARD OF 'laws.FnEncode'. -/
def fnEncodeUptoCard : Claim7 := { stood := { row := fnEncodeUptoRow, standIns := [], harness := (true, "d078553837e0fa79d54092f4700823785b0db61e7879b2c08a10042c0b32d53d"), looks := false }, kinds := [], alts := [], laidByText := true, laidKinds := [.data, .data], laidTests := true, laidLooks := .later }
def FnEncodeUptoCardSaid : Prop := Claim7.holds Tryd.pinned (.plain (OpenSpec.upto fnEncodeSpec)) fnEncodeUptoCard

/-- THE SECOND FORM's CARD OF 'laws.FnTimes'. -/
def fnTimesUptoCard : Claim7 := { stood := { row := fnTimesUptoRow, standIns := [], harness := (true, "d078553837e0fa79d54092f4700823785b0db61e7879b2c08a10042c0b32d53d"), looks := false }, kinds := [], alts := [], laidByText := true, laidKinds := [.data, .data, .data], laidTests := true, laidLooks := .later }
def FnTimesUptoCardSaid : Prop := Claim7.holds Tryd.pinned (.plain (OpenSpec.upto fnTimesSpec)) fnTimesUptoCard
end Rows
end Go.Proofs.YtfkfljohhabldaaDoor
