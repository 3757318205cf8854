/-
  DERIVED. GIVEN WITH THE SEED: THE CARDS: each row of YtpogbljoohdehaaDoorRows.lean that lists a variable, with what it lists TIED to the program's text (the seventh form; the later family's looks); each row that meets fmt, with fmt's text TOLD by the authors' own Lean function (tested against real Go, not proved from fmt's source: count such statements apart). THE CARD IS WHAT COUNTS. Prove the row's statement (the work); the ties are given (YtpogbljoohdehaaDoorTie.lean); close each card by the builder's one call (the guide's Derived/Test/ToyasCard.lean, 'card_holds'). Laid BY PROGRAM, IN A SANDBOX (cutbox-door.mjs). By AI agents, Wed Nov 11 2026. No macro, syntax, notation, axiom, sorry.
-/
import Derived.Test.YtpogbljoohdehaaDoorRows
import GoSem.ClaimSeven
namespace Go.Proofs.YtpogbljoohdehaaDoor
namespace Rows

/-- THE TIED CARD OF 'laws.FnFpBytes'. -/
def fnFpBytesCard : Claim7 := { stood := { row := fnFpBytesRow, standIns := [], harness := (true, "07d7f428cf76b42839d0f2576ab0b4073f079c719d11770616b6d0321f58f711"), looks := false }, kinds := [], alts := [], laidByText := true, laidKinds := [.data], laidTests := true, laidLooks := .later }
def FnFpBytesCardSaid : Prop := Claim7.holds Tryd.pinned (.plain (OpenSpec.ofChange fnFpBytesSpec)) fnFpBytesCard

/-- THE TIED CARD OF 'laws.FnFpTells'. -/
def fnFpTellsCard : Claim7 := { stood := { row := fnFpTellsRow, standIns := [], harness := (true, "07d7f428cf76b42839d0f2576ab0b4073f079c719d11770616b6d0321f58f711"), looks := false }, kinds := [], alts := [], laidByText := true, laidKinds := [.data], laidTests := true, laidLooks := .later }
def FnFpTellsCardSaid : Prop := Claim7.holds Tryd.pinned (.plain (OpenSpec.ofChange fnFpTellsSpec)) fnFpTellsCard

/-- THE TIED CARD OF 'laws.FnFpRing'. -/
def fnFpRingCard : Claim7 := { stood := { row := fnFpRingRow, standIns := [], harness := (true, "07d7f428cf76b42839d0f2576ab0b4073f079c719d11770616b6d0321f58f711"), looks := false }, kinds := [], alts := [], laidByText := true, laidKinds := [.data], laidTests := true, laidLooks := .later }
def FnFpRingCardSaid : Prop := Claim7.holds Tryd.pinned (.plain (OpenSpec.ofChange fnFpRingSpec)) fnFpRingCard

/-- THE TIED CARD OF 'laws.FnFqTells'. -/
def fnFqTellsCard : Claim7 := { stood := { row := fnFqTellsRow, standIns := [], harness := (true, "07d7f428cf76b42839d0f2576ab0b4073f079c719d11770616b6d0321f58f711"), looks := false }, kinds := [], alts := [], laidByText := true, laidKinds := [.data], laidTests := true, laidLooks := .later }
def FnFqTellsCardSaid : Prop := Claim7.holds Tryd.pinned (.plain (OpenSpec.ofChange fnFqTellsSpec)) fnFqTellsCard

/-- THE TIED CARD OF 'laws.FnFpIs'. -/
def fnFpIsCard : Claim7 := { stood := { row := fnFpIsRow, standIns := [], harness := (true, "07d7f428cf76b42839d0f2576ab0b4073f079c719d11770616b6d0321f58f711"), looks := false }, kinds := [], alts := [], laidByText := true, laidKinds := [.data], laidTests := true, laidLooks := .later }
def FnFpIsCardSaid : Prop := Claim7.holds Tryd.pinned (.plain (OpenSpec.ofChange fnFpIsSpec)) fnFpIsCard

/-- THE TIED CARD OF 'laws.FnFpPower'. -/
def fnFpPowerCard : Claim7 := { stood := { row := fnFpPowerRow, standIns := [], harness := (true, "07d7f428cf76b42839d0f2576ab0b4073f079c719d11770616b6d0321f58f711"), looks := false }, kinds := [], alts := [], laidByText := true, laidKinds := [.data], laidTests := true, laidLooks := .later }
def FnFpPowerCardSaid : Prop := Claim7.holds Tryd.pinned (.plain (OpenSpec.ofChange fnFpPowerSpec)) fnFpPowerCard

/-- THE TIED CARD OF 'laws.FnFqIs'. -/
def fnFqIsCard : Claim7 := { stood := { row := fnFqIsRow, standIns := [], harness := (true, "07d7f428cf76b42839d0f2576ab0b4073f079c719d11770616b6d0321f58f711"), looks := false }, kinds := [], alts := [], laidByText := true, laidKinds := [.data], laidTests := true, laidLooks := .later }
def FnFqIsCardSaid : Prop := Claim7.holds Tryd.pinned (.plain (OpenSpec.ofChange fnFqIsSpec)) fnFqIsCard

/-- THE TIED CARD OF 'laws.FnFpInv'. -/
def fnFpInvCard : Claim7 := { stood := { row := fnFpInvRow, standIns := [], harness := (true, "07d7f428cf76b42839d0f2576ab0b4073f079c719d11770616b6d0321f58f711"), looks := false }, kinds := [], alts := [], laidByText := true, laidKinds := [.data], laidTests := true, laidLooks := .later }
def FnFpInvCardSaid : Prop := Claim7.holds Tryd.pinned (.plain (OpenSpec.ofChange fnFpInvSpec)) fnFpInvCard

/-- THE TIED CARD OF 'laws.FnFqInv'. -/
def fnFqInvCard : Claim7 := { stood := { row := fnFqInvRow, standIns := [], harness := (true, "07d7f428cf76b42839d0f2576ab0b4073f079c719d11770616b6d0321f58f711"), looks := false }, kinds := [], alts := [], laidByText := true, laidKinds := [.data], laidTests := true, laidLooks := .later }
def FnFqInvCardSaid : Prop := Claim7.holds Tryd.pinned (.plain (OpenSpec.ofChange fnFqInvSpec)) fnFqInvCard

/-- THE TIED CARD OF 'laws.FnFqSqrt'. -/
def fnFqSqrtCard : Claim7 := { stood := { row := fnFqSqrtRow, standIns := [], harness := (true, "07d7f428cf76b42839d0f2576ab0b4073f079c719d11770616b6d0321f58f711"), looks := false }, kinds := [], alts := [], laidByText := true, laidKinds := [.data], laidTests := true, laidLooks := .later }
def FnFqSqrtCardSaid : Prop := Claim7.holds Tryd.pinned (.plain (OpenSpec.ofChange fnFqSqrtSpec)) fnFqSqrtCard

/-- THE SECOND FORM's CARD OF 'laws.FnFpBytes'. -/
def fnFpBytesUptoCard : Claim7 := { stood := { row := fnFpBytesUptoRow, standIns := [], harness := (true, "07d7f428cf76b42839d0f2576ab0b4073f079c719d11770616b6d0321f58f711"), looks := false }, kinds := [], alts := [], laidByText := true, laidKinds := [.data], laidTests := true, laidLooks := .later }
def FnFpBytesUptoCardSaid : Prop := Claim7.holds Tryd.pinned (.plain (OpenSpec.upto fnFpBytesSpec)) fnFpBytesUptoCard

/-- THE SECOND FORM's CARD OF 'laws.FnFpTells'. -/
def fnFpTellsUptoCard : Claim7 := { stood := { row := fnFpTellsUptoRow, standIns := [], harness := (true, "07d7f428cf76b42839d0f2576ab0b4073f079c719d11770616b6d0321f58f711"), looks := false }, kinds := [], alts := [], laidByText := true, laidKinds := [.data], laidTests := true, laidLooks := .later }
def FnFpTellsUptoCardSaid : Prop := Claim7.holds Tryd.pinned (.plain (OpenSpec.upto fnFpTellsSpec)) fnFpTellsUptoCard

/-- THE SECOND FORM's CARD OF 'laws.FnFpRing'. -/
def fnFpRingUptoCard : Claim7 := { stood := { row := fnFpRingUptoRow, standIns := [], harness := (true, "07d7f428cf76b42839d0f2576ab0b4073f079c719d11770616b6d0321f58f711"), looks := false }, kinds := [], alts := [], laidByText := true, laidKinds := [.data], laidTests := true, laidLooks := .later }
def FnFpRingUptoCardSaid : Prop := Claim7.holds Tryd.pinned (.plain (OpenSpec.upto fnFpRingSpec)) fnFpRingUptoCard

/-- THE SECOND FORM's CARD OF 'laws.FnFqTells'. -/
def fnFqTellsUptoCard : Claim7 := { stood := { row := fnFqTellsUptoRow, standIns := [], harness := (true, "07d7f428cf76b42839d0f2576ab0b4073f079c719d11770616b6d0321f58f711"), looks := false }, kinds := [], alts := [], laidByText := true, laidKinds := [.data], laidTests := true, laidLooks := .later }
def FnFqTellsUptoCardSaid : Prop := Claim7.holds Tryd.pinned (.plain (OpenSpec.upto fnFqTellsSpec)) fnFqTellsUptoCard

/-- THE SECOND FORM's CARD OF 'laws.FnFpIs'. -/
def fnFpIsUptoCard : Claim7 := { stood := { row := fnFpIsUptoRow, standIns := [], harness := (true, "07d7f428cf76b42839d0f2576ab0b4073f079c719d11770616b6d0321f58f711"), looks := false }, kinds := [], alts := [], laidByText := true, laidKinds := [.data], laidTests := true, laidLooks := .later }
def FnFpIsUptoCardSaid : Prop := Claim7.holds Tryd.pinned (.plain (OpenSpec.upto fnFpIsSpec)) fnFpIsUptoCard

/-- THE SECOND FORM's CARD OF 'laws.FnFpPower'. -/
def fnFpPowerUptoCard : Claim7 := { stood := { row := fnFpPowerUptoRow, standIns := [], harness := (true, "07d7f428cf76b42839d0f2576ab0b4073f079c719d11770616b6d0321f58f711"), looks := false }, kinds := [], alts := [], laidByText := true, laidKinds := [.data], laidTests := true, laidLooks := .later }
def FnFpPowerUptoCardSaid : Prop := Claim7.holds Tryd.pinned (.plain (OpenSpec.upto fnFpPowerSpec)) fnFpPowerUptoCard

/-- THE SECOND FORM's CARD OF 'laws.FnFqIs'. -/
def fnFqIsUptoCard : Claim7 := { stood := { row := fnFqIsUptoRow, standIns := [], harness := (true, "07d7f428cf76b42839d0f2576ab0b4073f079c719d11770616b6d0321f58f711"), looks := false }, kinds := [], alts := [], laidByText := true, laidKinds := [.data], laidTests := true, laidLooks := .later }
def FnFqIsUptoCardSaid : Prop := Claim7.holds Tryd.pinned (.plain (OpenSpec.upto fnFqIsSpec)) fnFqIsUptoCard

/-- THE SECOND FORM's CARD OF 'laws.FnFpInv'. -/
def fnFpInvUptoCard : Claim7 := { stood := { row := fnFpInvUptoRow, standIns := [], harness := (true, "07d7f428cf76b42839d0f2576ab0b4073f079c719d11770616b6d0321f58f711"), looks := false }, kinds := [], alts := [], laidByText := true, laidKinds := [.data], laidTests := true, laidLooks := .later }
def FnFpInvUptoCardSaid : Prop := Claim7.holds Tryd.pinned (.plain (OpenSpec.upto fnFpInvSpec)) fnFpInvUptoCard

/-- THE SECOND FORM's CARD OF 'laws.FnFqInv'. -/
def fnFqInvUptoCard : Claim7 := { stood := { row := fnFqInvUptoRow, standIns := [], harness := (true, "07d7f428cf76b42839d0f2576ab0b4073f079c719d11770616b6d0321f58f711"), looks := false }, kinds := [], alts := [], laidByText := true, laidKinds := [.data], laidTests := true, laidLooks := .later }
def FnFqInvUptoCardSaid : Prop := Claim7.holds Tryd.pinned (.plain (OpenSpec.upto fnFqInvSpec)) fnFqInvUptoCard

/-- THE SECOND FORM's CARD OF 'laws.FnFqSqrt'. -/
def fnFqSqrtUptoCard : Claim7 := { stood := { row := fnFqSqrtUptoRow, standIns := [], harness := (true, "07d7f428cf76b42839d0f2576ab0b4073f079c719d11770616b6d0321f58f711"), looks := false }, kinds := [], alts := [], laidByText := true, laidKinds := [.data], laidTests := true, laidLooks := .later }
def FnFqSqrtUptoCardSaid : Prop := Claim7.holds Tryd.pinned (.plain (OpenSpec.upto fnFqSqrtSpec)) fnFqSqrtUptoCard
end Rows
end Go.Proofs.YtpogbljoohdehaaDoor
