/-
  DERIVED. GIVEN WITH THE SEED: THE CARDS: each row of YtcofblepdfjhjaaDoorRows.lean that lists a variable, with what it lists TIED to the program's text (the seventh form; the later family's looks); each row that meets fmt, with fmt's text TOLD by the authors' own Lean function (tested against real Go, not proved from fmt's source: count such statements apart). THE CARD IS WHAT COUNTS. Prove the row's statement (the work); the ties are given (YtcofblepdfjhjaaDoorTie.lean); close each card by the builder's one call (the guide's Derived/Test/ToyasCard.lean, 'card_holds'). Laid BY PROGRAM, IN A SANDBOX (cutbox-door.mjs). By AI agents, Wed Nov 11 2026. No macro, syntax, notation, axiom, sorry.
-/
import Derived.Test.YtcofblepdfjhjaaDoorRows
import GoSem.ClaimSeven
namespace Go.Proofs.YtcofblepdfjhjaaDoor
namespace Rows

/-- THE TIED CARD OF 'laws.FnDeleted'. -/
def fnDeletedCard : Claim7 := { stood := { row := fnDeletedRow, standIns := [], harness := (true, "602479c1ec9c231bdf583cb54f6ba9c8a4c58c45e71ee99181cbd6ec548174f5"), looks := false }, kinds := [], alts := [], laidByText := true, laidKinds := [.sentinel, .sentinel], laidTests := true, laidLooks := .later }
def FnDeletedCardSaid : Prop := Claim7.holds Tryd.pinned (.plain (OpenSpec.ofChange fnDeletedSpec)) fnDeletedCard

/-- THE TIED CARD OF 'laws.FnEnds'. -/
def fnEndsCard : Claim7 := { stood := { row := fnEndsRow, standIns := [], harness := (true, "602479c1ec9c231bdf583cb54f6ba9c8a4c58c45e71ee99181cbd6ec548174f5"), looks := false }, kinds := [], alts := [], laidByText := true, laidKinds := [.sentinel, .sentinel], laidTests := true, laidLooks := .later }
def FnEndsCardSaid : Prop := Claim7.holds Tryd.pinned (.plain (OpenSpec.ofChange fnEndsSpec)) fnEndsCard

/-- THE TIED CARD OF 'laws.FnNotForSuffix'. -/
def fnNotForSuffixCard : Claim7 := { stood := { row := fnNotForSuffixRow, standIns := [], harness := (true, "602479c1ec9c231bdf583cb54f6ba9c8a4c58c45e71ee99181cbd6ec548174f5"), looks := false }, kinds := [], alts := [], laidByText := true, laidKinds := [.sentinel, .sentinel], laidTests := true, laidLooks := .later }
def FnNotForSuffixCardSaid : Prop := Claim7.holds Tryd.pinned (.plain (OpenSpec.ofChange fnNotForSuffixSpec)) fnNotForSuffixCard

/-- THE TIED CARD OF 'laws.FnOwnHost'. -/
def fnOwnHostCard : Claim7 := { stood := { row := fnOwnHostRow, standIns := [], harness := (true, "602479c1ec9c231bdf583cb54f6ba9c8a4c58c45e71ee99181cbd6ec548174f5"), looks := false }, kinds := [], alts := [], laidByText := true, laidKinds := [.sentinel, .sentinel], laidTests := true, laidLooks := .later }
def FnOwnHostCardSaid : Prop := Claim7.holds Tryd.pinned (.plain (OpenSpec.ofChange fnOwnHostSpec)) fnOwnHostCard

/-- THE TIED CARD OF 'laws.FnLater'. -/
def fnLaterCard : Claim7 := { stood := { row := fnLaterRow, standIns := [], harness := (true, "602479c1ec9c231bdf583cb54f6ba9c8a4c58c45e71ee99181cbd6ec548174f5"), looks := false }, kinds := [], alts := [], laidByText := true, laidKinds := [.sentinel, .sentinel], laidTests := true, laidLooks := .later }
def FnLaterCardSaid : Prop := Claim7.holds Tryd.pinned (.plain (OpenSpec.ofChange fnLaterSpec)) fnLaterCard

/-- THE TIED CARD OF 'laws.FnSecure'. -/
def fnSecureCard : Claim7 := { stood := { row := fnSecureRow, standIns := [], harness := (true, "602479c1ec9c231bdf583cb54f6ba9c8a4c58c45e71ee99181cbd6ec548174f5"), looks := false }, kinds := [], alts := [], laidByText := true, laidKinds := [.sentinel, .sentinel], laidTests := true, laidLooks := .later }
def FnSecureCardSaid : Prop := Claim7.holds Tryd.pinned (.plain (OpenSpec.ofChange fnSecureSpec)) fnSecureCard

/-- THE TIED CARD OF 'laws.FnSetAgain'. -/
def fnSetAgainCard : Claim7 := { stood := { row := fnSetAgainRow, standIns := [], harness := (true, "602479c1ec9c231bdf583cb54f6ba9c8a4c58c45e71ee99181cbd6ec548174f5"), looks := false }, kinds := [], alts := [], laidByText := true, laidKinds := [.sentinel, .sentinel], laidTests := true, laidLooks := .later }
def FnSetAgainCardSaid : Prop := Claim7.holds Tryd.pinned (.plain (OpenSpec.ofChange fnSetAgainSpec)) fnSetAgainCard

/-- THE TIED CARD OF 'laws.FnScheme'. -/
def fnSchemeCard : Claim7 := { stood := { row := fnSchemeRow, standIns := [], harness := (true, "602479c1ec9c231bdf583cb54f6ba9c8a4c58c45e71ee99181cbd6ec548174f5"), looks := false }, kinds := [], alts := [], laidByText := true, laidKinds := [.sentinel, .sentinel], laidTests := true, laidLooks := .later }
def FnSchemeCardSaid : Prop := Claim7.holds Tryd.pinned (.plain (OpenSpec.ofChange fnSchemeSpec)) fnSchemeCard

/-- THE TIED CARD OF 'laws.FnHostInAnyForm'. -/
def fnHostInAnyFormCard : Claim7 := { stood := { row := fnHostInAnyFormRow, standIns := [], harness := (true, "602479c1ec9c231bdf583cb54f6ba9c8a4c58c45e71ee99181cbd6ec548174f5"), looks := false }, kinds := [], alts := [], laidByText := true, laidKinds := [.sentinel, .sentinel], laidTests := true, laidLooks := .later }
def FnHostInAnyFormCardSaid : Prop := Claim7.holds Tryd.pinned (.plain (OpenSpec.ofChange fnHostInAnyFormSpec)) fnHostInAnyFormCard

/-- THE TIED CARD OF 'laws.FnApart'. -/
def fnApartCard : Claim7 := { stood := { row := fnApartRow, standIns := [], harness := (true, "602479c1ec9c231bdf583cb54f6ba9c8a4c58c45e71ee99181cbd6ec548174f5"), looks := false }, kinds := [], alts := [], laidByText := true, laidKinds := [.sentinel, .sentinel], laidTests := true, laidLooks := .later }
def FnApartCardSaid : Prop := Claim7.holds Tryd.pinned (.plain (OpenSpec.ofChange fnApartSpec)) fnApartCard

/-- THE SECOND FORM's CARD OF 'laws.FnDeleted'. -/
def fnDeletedUptoCard : Claim7 := { stood := { row := fnDeletedUptoRow, standIns := [], harness := (true, "602479c1ec9c231bdf583cb54f6ba9c8a4c58c45e71ee99181cbd6ec548174f5"), looks := false }, kinds := [], alts := [], laidByText := true, laidKinds := [.sentinel, .sentinel], laidTests := true, laidLooks := .later }
def FnDeletedUptoCardSaid : Prop := Claim7.holds Tryd.pinned (.plain (OpenSpec.upto fnDeletedSpec)) fnDeletedUptoCard

/-- THE SECOND FORM's CARD OF 'laws.FnEnds'. -/
def fnEndsUptoCard : Claim7 := { stood := { row := fnEndsUptoRow, standIns := [], harness := (true, "602479c1ec9c231bdf583cb54f6ba9c8a4c58c45e71ee99181cbd6ec548174f5"), looks := false }, kinds := [], alts := [], laidByText := true, laidKinds := [.sentinel, .sentinel], laidTests := true, laidLooks := .later }
def FnEndsUptoCardSaid : Prop := Claim7.holds Tryd.pinned (.plain (OpenSpec.upto fnEndsSpec)) fnEndsUptoCard

/-- THE SECOND FORM's CARD OF 'laws.FnNotForSuffix'. -/
def fnNotForSuffixUptoCard : Claim7 := { stood := { row := fnNotForSuffixUptoRow, standIns := [], harness := (true, "602479c1ec9c231bdf583cb54f6ba9c8a4c58c45e71ee99181cbd6ec548174f5"), looks := false }, kinds := [], alts := [], laidByText := true, laidKinds := [.sentinel, .sentinel], laidTests := true, laidLooks := .later }
def FnNotForSuffixUptoCardSaid : Prop := Claim7.holds Tryd.pinned (.plain (OpenSpec.upto fnNotForSuffixSpec)) fnNotForSuffixUptoCard

/-- THE SECOND FORM's CARD OF 'laws.FnOwnHost'. -/
def fnOwnHostUptoCard : Claim7 := { stood := { row := fnOwnHostUptoRow, standIns := [], harness := (true, "602479c1ec9c231bdf583cb54f6ba9c8a4c58c45e71ee99181cbd6ec548174f5"), looks := false }, kinds := [], alts := [], laidByText := true, laidKinds := [.sentinel, .sentinel], laidTests := true, laidLooks := .later }
def FnOwnHostUptoCardSaid : Prop := Claim7.holds Tryd.pinned (.plain (OpenSpec.upto fnOwnHostSpec)) fnOwnHostUptoCard

/-- THE SECOND FORM's CARD OF 'laws.FnLater'. -/
def fnLaterUptoCard : Claim7 := { stood := { row := fnLaterUptoRow, standIns := [], harness := (true, "602479c1ec9c231bdf583cb54f6ba9c8a4c58c45e71ee99181cbd6ec548174f5"), looks := false }, kinds := [], alts := [], laidByText := true, laidKinds := [.sentinel, .sentinel], laidTests := true, laidLooks := .later }
def FnLaterUptoCardSaid : Prop := Claim7.holds Tryd.pinned (.plain (OpenSpec.upto fnLaterSpec)) fnLaterUptoCard

/-- THE SECOND FORM's CARD OF 'laws.FnSecure'. -/
def fnSecureUptoCard : Claim7 := { stood := { row := fnSecureUptoRow, standIns := [], harness := (true, "602479c1ec9c231bdf583cb54f6ba9c8a4c58c45e71ee99181cbd6ec548174f5"), looks := false }, kinds := [], alts := [], laidByText := true, laidKinds := [.sentinel, .sentinel], laidTests := true, laidLooks := .later }
def FnSecureUptoCardSaid : Prop := Claim7.holds Tryd.pinned (.plain (OpenSpec.upto fnSecureSpec)) fnSecureUptoCard

/-- THE SECOND FORM's CARD OF 'laws.FnSetAgain'. -/
def fnSetAgainUptoCard : Claim7 := { stood := { row := fnSetAgainUptoRow, standIns := [], harness := (true, "602479c1ec9c231bdf583cb54f6ba9c8a4c58c45e71ee99181cbd6ec548174f5"), looks := false }, kinds := [], alts := [], laidByText := true, laidKinds := [.sentinel, .sentinel], laidTests := true, laidLooks := .later }
def FnSetAgainUptoCardSaid : Prop := Claim7.holds Tryd.pinned (.plain (OpenSpec.upto fnSetAgainSpec)) fnSetAgainUptoCard

/-- THE SECOND FORM's CARD OF 'laws.FnScheme'. -/
def fnSchemeUptoCard : Claim7 := { stood := { row := fnSchemeUptoRow, standIns := [], harness := (true, "602479c1ec9c231bdf583cb54f6ba9c8a4c58c45e71ee99181cbd6ec548174f5"), looks := false }, kinds := [], alts := [], laidByText := true, laidKinds := [.sentinel, .sentinel], laidTests := true, laidLooks := .later }
def FnSchemeUptoCardSaid : Prop := Claim7.holds Tryd.pinned (.plain (OpenSpec.upto fnSchemeSpec)) fnSchemeUptoCard

/-- THE SECOND FORM's CARD OF 'laws.FnHostInAnyForm'. -/
def fnHostInAnyFormUptoCard : Claim7 := { stood := { row := fnHostInAnyFormUptoRow, standIns := [], harness := (true, "602479c1ec9c231bdf583cb54f6ba9c8a4c58c45e71ee99181cbd6ec548174f5"), looks := false }, kinds := [], alts := [], laidByText := true, laidKinds := [.sentinel, .sentinel], laidTests := true, laidLooks := .later }
def FnHostInAnyFormUptoCardSaid : Prop := Claim7.holds Tryd.pinned (.plain (OpenSpec.upto fnHostInAnyFormSpec)) fnHostInAnyFormUptoCard

/-- THE SECOND FORM's CARD OF 'laws.FnApart'. -/
def fnApartUptoCard : Claim7 := { stood := { row := fnApartUptoRow, standIns := [], harness := (true, "602479c1ec9c231bdf583cb54f6ba9c8a4c58c45e71ee99181cbd6ec548174f5"), looks := false }, kinds := [], alts := [], laidByText := true, laidKinds := [.sentinel, .sentinel], laidTests := true, laidLooks := .later }
def FnApartUptoCardSaid : Prop := Claim7.holds Tryd.pinned (.plain (OpenSpec.upto fnApartSpec)) fnApartUptoCard
end Rows
end Go.Proofs.YtcofblepdfjhjaaDoor
