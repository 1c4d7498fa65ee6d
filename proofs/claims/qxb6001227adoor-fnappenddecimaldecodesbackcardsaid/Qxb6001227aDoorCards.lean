/-
  DERIVED. GIVEN WITH THE SEED: THE CARDS: each row of Qxb6001227aDoorRows.lean that lists a variable, with what it lists TIED to the program's text (the seventh form; the later family's looks); each row that meets fmt, with fmt's text TOLD by the authors' own Lean function (tested against real Go, not proved from fmt's source: count such statements apart). THE CARD IS WHAT COUNTS. Prove the row's statement (the work); the ties are given (Qxb6001227aDoorTie.lean); close each card by the builder's one call (the guide's Derived/Test/ToyasCard.lean, 'card_holds'). Laid BY PROGRAM, IN A SANDBOX (cutbox-door.mjs). By AI agents, Wed Nov 11 2026. No macro, syntax, notation, axiom, sorry.
-/
import Derived.Test.Qxb6001227aDoorRows
import GoSem.ClaimSeven
namespace Go.Proofs.Qxb6001227aDoor
namespace Rows

/-- THE TIED CARD OF 'zzlaws_history_b1.FnAppendDecimalDecodesBack'. -/
def fnAppendDecimalDecodesBackCard : Claim7 := { stood := { row := fnAppendDecimalDecodesBackRow, standIns := [], harness := (true, "6785580714f75fa8f966dfc2e4fbac56a36f7caea25fbdb5663bfe5498ff7cc5"), looks := false }, kinds := [], alts := [], laidByText := true, laidKinds := [.data, .data, .data], laidTests := true, laidLooks := .later }
def FnAppendDecimalDecodesBackCardSaid : Prop := Claim7.holds Tryd.pinned (.plain (OpenSpec.ofChange fnAppendDecimalDecodesBackSpec)) fnAppendDecimalDecodesBackCard

/-- THE TIED CARD OF 'zzlaws_history_b1.FnAppendDecimalInjective'. -/
def fnAppendDecimalInjectiveCard : Claim7 := { stood := { row := fnAppendDecimalInjectiveRow, standIns := [], harness := (true, "6785580714f75fa8f966dfc2e4fbac56a36f7caea25fbdb5663bfe5498ff7cc5"), looks := false }, kinds := [], alts := [], laidByText := true, laidKinds := [.data, .data, .data], laidTests := true, laidLooks := .later }
def FnAppendDecimalInjectiveCardSaid : Prop := Claim7.holds Tryd.pinned (.plain (OpenSpec.ofChange fnAppendDecimalInjectiveSpec)) fnAppendDecimalInjectiveCard

/-- THE TIED CARD OF 'zzlaws_history_b1.FnSmallIntReadsAppendIntsOrRefuses'. -/
def fnSmallIntReadsAppendIntsOrRefusesCard : Claim7 := { stood := { row := fnSmallIntReadsAppendIntsOrRefusesRow, standIns := [], harness := (true, "6785580714f75fa8f966dfc2e4fbac56a36f7caea25fbdb5663bfe5498ff7cc5"), looks := false }, kinds := [], alts := [], laidByText := true, laidKinds := [.data, .data, .data], laidTests := true, laidLooks := .later }
def FnSmallIntReadsAppendIntsOrRefusesCardSaid : Prop := Claim7.holds Tryd.pinned (.plain (OpenSpec.ofChange fnSmallIntReadsAppendIntsOrRefusesSpec)) fnSmallIntReadsAppendIntsOrRefusesCard

/-- THE TIED CARD OF 'zzlaws_history_b1.FnSmallIntAcceptsOnlyCanonical'. -/
def fnSmallIntAcceptsOnlyCanonicalCard : Claim7 := { stood := { row := fnSmallIntAcceptsOnlyCanonicalRow, standIns := [], harness := (true, "6785580714f75fa8f966dfc2e4fbac56a36f7caea25fbdb5663bfe5498ff7cc5"), looks := false }, kinds := [], alts := [], laidByText := true, laidKinds := [.data, .data, .data], laidTests := true, laidLooks := .later }
def FnSmallIntAcceptsOnlyCanonicalCardSaid : Prop := Claim7.holds Tryd.pinned (.plain (OpenSpec.ofChange fnSmallIntAcceptsOnlyCanonicalSpec)) fnSmallIntAcceptsOnlyCanonicalCard

/-- THE TIED CARD OF 'zzlaws_history_b1.FnAppendIntsReadsBack'. -/
def fnAppendIntsReadsBackCard : Claim7 := { stood := { row := fnAppendIntsReadsBackRow, standIns := [], harness := (true, "6785580714f75fa8f966dfc2e4fbac56a36f7caea25fbdb5663bfe5498ff7cc5"), looks := false }, kinds := [], alts := [], laidByText := true, laidKinds := [.data, .data, .data], laidTests := true, laidLooks := .later }
def FnAppendIntsReadsBackCardSaid : Prop := Claim7.holds Tryd.pinned (.plain (OpenSpec.ofChange fnAppendIntsReadsBackSpec)) fnAppendIntsReadsBackCard

/-- THE TIED CARD OF 'zzlaws_history_b1.FnAppendIntsSplitsAtSeparator'. -/
def fnAppendIntsSplitsAtSeparatorCard : Claim7 := { stood := { row := fnAppendIntsSplitsAtSeparatorRow, standIns := [], harness := (true, "6785580714f75fa8f966dfc2e4fbac56a36f7caea25fbdb5663bfe5498ff7cc5"), looks := false }, kinds := [], alts := [], laidByText := true, laidKinds := [.data, .data, .data], laidTests := true, laidLooks := .later }
def FnAppendIntsSplitsAtSeparatorCardSaid : Prop := Claim7.holds Tryd.pinned (.plain (OpenSpec.ofChange fnAppendIntsSplitsAtSeparatorSpec)) fnAppendIntsSplitsAtSeparatorCard

/-- THE TIED CARD OF 'zzlaws_history_b1.FnAppendIntsNotationsAgree'. -/
def fnAppendIntsNotationsAgreeCard : Claim7 := { stood := { row := fnAppendIntsNotationsAgreeRow, standIns := [], harness := (true, "6785580714f75fa8f966dfc2e4fbac56a36f7caea25fbdb5663bfe5498ff7cc5"), looks := false }, kinds := [], alts := [], laidByText := true, laidKinds := [.data, .data, .data], laidTests := true, laidLooks := .later }
def FnAppendIntsNotationsAgreeCardSaid : Prop := Claim7.holds Tryd.pinned (.plain (OpenSpec.ofChange fnAppendIntsNotationsAgreeSpec)) fnAppendIntsNotationsAgreeCard
end Rows
end Go.Proofs.Qxb6001227aDoor
