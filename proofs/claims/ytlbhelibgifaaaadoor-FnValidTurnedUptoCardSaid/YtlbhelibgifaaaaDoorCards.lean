/-
  DERIVED. GIVEN WITH THE SEED: THE CARDS: each row of YtlbhelibgifaaaaDoorRows.lean that lists a variable, with what it lists TIED to the program's text (the seventh form; the later family's looks); each row that meets fmt, with fmt's text TOLD by the authors' own Lean function (tested against real Go, not proved from fmt's source: count such statements apart). THE CARD IS WHAT COUNTS. Prove the row's statement (the work); the ties are given (YtlbhelibgifaaaaDoorTie.lean); close each card by the builder's one call (the guide's Derived/Test/ToyasCard.lean, 'card_holds'). Laid BY PROGRAM, IN A SANDBOX (cutbox-door.mjs). By AI agents, Wed Nov 11 2026. No macro, syntax, notation, axiom, sorry.
-/
import Derived.Test.YtlbhelibgifaaaaDoorRows
import GoSem.ClaimSeven
namespace Go.Proofs.YtlbhelibgifaaaaDoor
namespace Rows

/-- THE TIED CARD OF 'laws.FnExactValidPath'. -/
def fnExactValidPathCard : Claim7 := { stood := { row := fnExactValidPathRow, standIns := [], harness := (true, "9891e297d37bc1540c8a71e667775ecc584fe46ffcfe54acf8a9f451e9cf21a4"), looks := false }, kinds := [], alts := [], laidByText := true, laidKinds := [.data, .pinned], laidTests := true, laidLooks := .later }
def FnExactValidPathCardSaid : Prop := Claim7.holds Tryd.pinned (.plain (OpenSpec.ofChange fnExactValidPathSpec)) fnExactValidPathCard

/-- THE TIED CARD OF 'laws.FnValidBroken'. -/
def fnValidBrokenCard : Claim7 := { stood := { row := fnValidBrokenRow, standIns := [], harness := (true, "9891e297d37bc1540c8a71e667775ecc584fe46ffcfe54acf8a9f451e9cf21a4"), looks := false }, kinds := [], alts := [], laidByText := true, laidKinds := [.data, .pinned], laidTests := true, laidLooks := .later }
def FnValidBrokenCardSaid : Prop := Claim7.holds Tryd.pinned (.plain (OpenSpec.ofChange fnValidBrokenSpec)) fnValidBrokenCard

/-- THE TIED CARD OF 'laws.FnValidByte'. -/
def fnValidByteCard : Claim7 := { stood := { row := fnValidByteRow, standIns := [], harness := (true, "9891e297d37bc1540c8a71e667775ecc584fe46ffcfe54acf8a9f451e9cf21a4"), looks := false }, kinds := [], alts := [], laidByText := true, laidKinds := [.data, .pinned], laidTests := true, laidLooks := .later }
def FnValidByteCardSaid : Prop := Claim7.holds Tryd.pinned (.plain (OpenSpec.ofChange fnValidByteSpec)) fnValidByteCard

/-- THE TIED CARD OF 'laws.FnValidCut'. -/
def fnValidCutCard : Claim7 := { stood := { row := fnValidCutRow, standIns := [], harness := (true, "9891e297d37bc1540c8a71e667775ecc584fe46ffcfe54acf8a9f451e9cf21a4"), looks := false }, kinds := [], alts := [], laidByText := true, laidKinds := [.data, .pinned], laidTests := true, laidLooks := .later }
def FnValidCutCardSaid : Prop := Claim7.holds Tryd.pinned (.plain (OpenSpec.ofChange fnValidCutSpec)) fnValidCutCard

/-- THE TIED CARD OF 'laws.FnValidDots'. -/
def fnValidDotsCard : Claim7 := { stood := { row := fnValidDotsRow, standIns := [], harness := (true, "9891e297d37bc1540c8a71e667775ecc584fe46ffcfe54acf8a9f451e9cf21a4"), looks := false }, kinds := [], alts := [], laidByText := true, laidKinds := [.data, .pinned], laidTests := true, laidLooks := .later }
def FnValidDotsCardSaid : Prop := Claim7.holds Tryd.pinned (.plain (OpenSpec.ofChange fnValidDotsSpec)) fnValidDotsCard

/-- THE TIED CARD OF 'laws.FnValidElements'. -/
def fnValidElementsCard : Claim7 := { stood := { row := fnValidElementsRow, standIns := [], harness := (true, "9891e297d37bc1540c8a71e667775ecc584fe46ffcfe54acf8a9f451e9cf21a4"), looks := false }, kinds := [], alts := [], laidByText := true, laidKinds := [.data, .pinned], laidTests := true, laidLooks := .later }
def FnValidElementsCardSaid : Prop := Claim7.holds Tryd.pinned (.plain (OpenSpec.ofChange fnValidElementsSpec)) fnValidElementsCard

/-- THE TIED CARD OF 'laws.FnValidEnds'. -/
def fnValidEndsCard : Claim7 := { stood := { row := fnValidEndsRow, standIns := [], harness := (true, "9891e297d37bc1540c8a71e667775ecc584fe46ffcfe54acf8a9f451e9cf21a4"), looks := false }, kinds := [], alts := [], laidByText := true, laidKinds := [.data, .pinned], laidTests := true, laidLooks := .later }
def FnValidEndsCardSaid : Prop := Claim7.holds Tryd.pinned (.plain (OpenSpec.ofChange fnValidEndsSpec)) fnValidEndsCard

/-- THE TIED CARD OF 'laws.FnValidJoin'. -/
def fnValidJoinCard : Claim7 := { stood := { row := fnValidJoinRow, standIns := [], harness := (true, "9891e297d37bc1540c8a71e667775ecc584fe46ffcfe54acf8a9f451e9cf21a4"), looks := false }, kinds := [], alts := [], laidByText := true, laidKinds := [.data, .pinned], laidTests := true, laidLooks := .later }
def FnValidJoinCardSaid : Prop := Claim7.holds Tryd.pinned (.plain (OpenSpec.ofChange fnValidJoinSpec)) fnValidJoinCard

/-- THE TIED CARD OF 'laws.FnValidList'. -/
def fnValidListCard : Claim7 := { stood := { row := fnValidListRow, standIns := [], harness := (true, "9891e297d37bc1540c8a71e667775ecc584fe46ffcfe54acf8a9f451e9cf21a4"), looks := false }, kinds := [], alts := [], laidByText := true, laidKinds := [.data, .pinned], laidTests := true, laidLooks := .later }
def FnValidListCardSaid : Prop := Claim7.holds Tryd.pinned (.plain (OpenSpec.ofChange fnValidListSpec)) fnValidListCard

/-- THE TIED CARD OF 'laws.FnValidMany'. -/
def fnValidManyCard : Claim7 := { stood := { row := fnValidManyRow, standIns := [], harness := (true, "9891e297d37bc1540c8a71e667775ecc584fe46ffcfe54acf8a9f451e9cf21a4"), looks := false }, kinds := [], alts := [], laidByText := true, laidKinds := [.data, .pinned], laidTests := true, laidLooks := .later }
def FnValidManyCardSaid : Prop := Claim7.holds Tryd.pinned (.plain (OpenSpec.ofChange fnValidManySpec)) fnValidManyCard

/-- THE TIED CARD OF 'laws.FnValidOther'. -/
def fnValidOtherCard : Claim7 := { stood := { row := fnValidOtherRow, standIns := [], harness := (true, "9891e297d37bc1540c8a71e667775ecc584fe46ffcfe54acf8a9f451e9cf21a4"), looks := false }, kinds := [], alts := [], laidByText := true, laidKinds := [.data, .pinned], laidTests := true, laidLooks := .later }
def FnValidOtherCardSaid : Prop := Claim7.holds Tryd.pinned (.plain (OpenSpec.ofChange fnValidOtherSpec)) fnValidOtherCard

/-- THE TIED CARD OF 'laws.FnValidRune'. -/
def fnValidRuneCard : Claim7 := { stood := { row := fnValidRuneRow, standIns := [], harness := (true, "9891e297d37bc1540c8a71e667775ecc584fe46ffcfe54acf8a9f451e9cf21a4"), looks := false }, kinds := [], alts := [], laidByText := true, laidKinds := [.data, .pinned], laidTests := true, laidLooks := .later }
def FnValidRuneCardSaid : Prop := Claim7.holds Tryd.pinned (.plain (OpenSpec.ofChange fnValidRuneSpec)) fnValidRuneCard

/-- THE TIED CARD OF 'laws.FnValidTurned'. -/
def fnValidTurnedCard : Claim7 := { stood := { row := fnValidTurnedRow, standIns := [], harness := (true, "9891e297d37bc1540c8a71e667775ecc584fe46ffcfe54acf8a9f451e9cf21a4"), looks := false }, kinds := [], alts := [], laidByText := true, laidKinds := [.data, .pinned], laidTests := true, laidLooks := .later }
def FnValidTurnedCardSaid : Prop := Claim7.holds Tryd.pinned (.plain (OpenSpec.ofChange fnValidTurnedSpec)) fnValidTurnedCard

/-- THE SECOND FORM's CARD OF 'laws.FnExactValidPath'. -/
def fnExactValidPathUptoCard : Claim7 := { stood := { row := fnExactValidPathUptoRow, standIns := [], harness := (true, "9891e297d37bc1540c8a71e667775ecc584fe46ffcfe54acf8a9f451e9cf21a4"), looks := false }, kinds := [], alts := [], laidByText := true, laidKinds := [.data, .pinned], laidTests := true, laidLooks := .later }
def FnExactValidPathUptoCardSaid : Prop := Claim7.holds Tryd.pinned (.plain (OpenSpec.upto fnExactValidPathSpec)) fnExactValidPathUptoCard

/-- THE SECOND FORM's CARD OF 'laws.FnValidBroken'. -/
def fnValidBrokenUptoCard : Claim7 := { stood := { row := fnValidBrokenUptoRow, standIns := [], harness := (true, "9891e297d37bc1540c8a71e667775ecc584fe46ffcfe54acf8a9f451e9cf21a4"), looks := false }, kinds := [], alts := [], laidByText := true, laidKinds := [.data, .pinned], laidTests := true, laidLooks := .later }
def FnValidBrokenUptoCardSaid : Prop := Claim7.holds Tryd.pinned (.plain (OpenSpec.upto fnValidBrokenSpec)) fnValidBrokenUptoCard

/-- THE SECOND FORM's CARD OF 'laws.FnValidByte'. -/
def fnValidByteUptoCard : Claim7 := { stood := { row := fnValidByteUptoRow, standIns := [], harness := (true, "9891e297d37bc1540c8a71e667775ecc584fe46ffcfe54acf8a9f451e9cf21a4"), looks := false }, kinds := [], alts := [], laidByText := true, laidKinds := [.data, .pinned], laidTests := true, laidLooks := .later }
def FnValidByteUptoCardSaid : Prop := Claim7.holds Tryd.pinned (.plain (OpenSpec.upto fnValidByteSpec)) fnValidByteUptoCard

/-- THE SECOND FORM's CARD OF 'laws.FnValidCut'. -/
def fnValidCutUptoCard : Claim7 := { stood := { row := fnValidCutUptoRow, standIns := [], harness := (true, "9891e297d37bc1540c8a71e667775ecc584fe46ffcfe54acf8a9f451e9cf21a4"), looks := false }, kinds := [], alts := [], laidByText := true, laidKinds := [.data, .pinned], laidTests := true, laidLooks := .later }
def FnValidCutUptoCardSaid : Prop := Claim7.holds Tryd.pinned (.plain (OpenSpec.upto fnValidCutSpec)) fnValidCutUptoCard

/-- THE SECOND FORM's CARD OF 'laws.FnValidDots'. -/
def fnValidDotsUptoCard : Claim7 := { stood := { row := fnValidDotsUptoRow, standIns := [], harness := (true, "9891e297d37bc1540c8a71e667775ecc584fe46ffcfe54acf8a9f451e9cf21a4"), looks := false }, kinds := [], alts := [], laidByText := true, laidKinds := [.data, .pinned], laidTests := true, laidLooks := .later }
def FnValidDotsUptoCardSaid : Prop := Claim7.holds Tryd.pinned (.plain (OpenSpec.upto fnValidDotsSpec)) fnValidDotsUptoCard

/-- THE SECOND FORM's CARD OF 'laws.FnValidElements'. -/
def fnValidElementsUptoCard : Claim7 := { stood := { row := fnValidElementsUptoRow, standIns := [], harness := (true, "9891e297d37bc1540c8a71e667775ecc584fe46ffcfe54acf8a9f451e9cf21a4"), looks := false }, kinds := [], alts := [], laidByText := true, laidKinds := [.data, .pinned], laidTests := true, laidLooks := .later }
def FnValidElementsUptoCardSaid : Prop := Claim7.holds Tryd.pinned (.plain (OpenSpec.upto fnValidElementsSpec)) fnValidElementsUptoCard

/-- THE SECOND FORM's CARD OF 'laws.FnValidEnds'. -/
def fnValidEndsUptoCard : Claim7 := { stood := { row := fnValidEndsUptoRow, standIns := [], harness := (true, "9891e297d37bc1540c8a71e667775ecc584fe46ffcfe54acf8a9f451e9cf21a4"), looks := false }, kinds := [], alts := [], laidByText := true, laidKinds := [.data, .pinned], laidTests := true, laidLooks := .later }
def FnValidEndsUptoCardSaid : Prop := Claim7.holds Tryd.pinned (.plain (OpenSpec.upto fnValidEndsSpec)) fnValidEndsUptoCard

/-- THE SECOND FORM's CARD OF 'laws.FnValidJoin'. -/
def fnValidJoinUptoCard : Claim7 := { stood := { row := fnValidJoinUptoRow, standIns := [], harness := (true, "9891e297d37bc1540c8a71e667775ecc584fe46ffcfe54acf8a9f451e9cf21a4"), looks := false }, kinds := [], alts := [], laidByText := true, laidKinds := [.data, .pinned], laidTests := true, laidLooks := .later }
def FnValidJoinUptoCardSaid : Prop := Claim7.holds Tryd.pinned (.plain (OpenSpec.upto fnValidJoinSpec)) fnValidJoinUptoCard

/-- THE SECOND FORM's CARD OF 'laws.FnValidList'. -/
def fnValidListUptoCard : Claim7 := { stood := { row := fnValidListUptoRow, standIns := [], harness := (true, "9891e297d37bc1540c8a71e667775ecc584fe46ffcfe54acf8a9f451e9cf21a4"), looks := false }, kinds := [], alts := [], laidByText := true, laidKinds := [.data, .pinned], laidTests := true, laidLooks := .later }
def FnValidListUptoCardSaid : Prop := Claim7.holds Tryd.pinned (.plain (OpenSpec.upto fnValidListSpec)) fnValidListUptoCard

/-- THE SECOND FORM's CARD OF 'laws.FnValidMany'. -/
def fnValidManyUptoCard : Claim7 := { stood := { row := fnValidManyUptoRow, standIns := [], harness := (true, "9891e297d37bc1540c8a71e667775ecc584fe46ffcfe54acf8a9f451e9cf21a4"), looks := false }, kinds := [], alts := [], laidByText := true, laidKinds := [.data, .pinned], laidTests := true, laidLooks := .later }
def FnValidManyUptoCardSaid : Prop := Claim7.holds Tryd.pinned (.plain (OpenSpec.upto fnValidManySpec)) fnValidManyUptoCard

/-- THE SECOND FORM's CARD OF 'laws.FnValidOther'. -/
def fnValidOtherUptoCard : Claim7 := { stood := { row := fnValidOtherUptoRow, standIns := [], harness := (true, "9891e297d37bc1540c8a71e667775ecc584fe46ffcfe54acf8a9f451e9cf21a4"), looks := false }, kinds := [], alts := [], laidByText := true, laidKinds := [.data, .pinned], laidTests := true, laidLooks := .later }
def FnValidOtherUptoCardSaid : Prop := Claim7.holds Tryd.pinned (.plain (OpenSpec.upto fnValidOtherSpec)) fnValidOtherUptoCard

/-- THE SECOND FORM's CARD OF 'laws.FnValidRune'. -/
def fnValidRuneUptoCard : Claim7 := { stood := { row := fnValidRuneUptoRow, standIns := [], harness := (true, "9891e297d37bc1540c8a71e667775ecc584fe46ffcfe54acf8a9f451e9cf21a4"), looks := false }, kinds := [], alts := [], laidByText := true, laidKinds := [.data, .pinned], laidTests := true, laidLooks := .later }
def FnValidRuneUptoCardSaid : Prop := Claim7.holds Tryd.pinned (.plain (OpenSpec.upto fnValidRuneSpec)) fnValidRuneUptoCard

/-- THE SECOND FORM's CARD OF 'laws.FnValidTurned'. -/
def fnValidTurnedUptoCard : Claim7 := { stood := { row := fnValidTurnedUptoRow, standIns := [], harness := (true, "9891e297d37bc1540c8a71e667775ecc584fe46ffcfe54acf8a9f451e9cf21a4"), looks := false }, kinds := [], alts := [], laidByText := true, laidKinds := [.data, .pinned], laidTests := true, laidLooks := .later }
def FnValidTurnedUptoCardSaid : Prop := Claim7.holds Tryd.pinned (.plain (OpenSpec.upto fnValidTurnedSpec)) fnValidTurnedUptoCard
end Rows
end Go.Proofs.YtlbhelibgifaaaaDoor
