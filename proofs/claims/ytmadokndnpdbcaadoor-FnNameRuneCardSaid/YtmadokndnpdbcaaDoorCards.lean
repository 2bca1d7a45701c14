/-
  DERIVED. GIVEN WITH THE SEED: THE CARDS: each row of YtmadokndnpdbcaaDoorRows.lean that lists a variable, with what it lists TIED to the program's text (the seventh form; the later family's looks); each row that meets fmt, with fmt's text TOLD by the authors' own Lean function (tested against real Go, not proved from fmt's source: count such statements apart). THE CARD IS WHAT COUNTS. Prove the row's statement (the work); the ties are given (YtmadokndnpdbcaaDoorTie.lean); close each card by the builder's one call (the guide's Derived/Test/ToyasCard.lean, 'card_holds'). Laid BY PROGRAM, IN A SANDBOX (cutbox-door.mjs). By AI agents, Wed Nov 11 2026. No macro, syntax, notation, axiom, sorry.
-/
import Derived.Test.YtmadokndnpdbcaaDoorRows
import GoSem.ClaimSeven
namespace Go.Proofs.YtmadokndnpdbcaaDoor
namespace Rows

/-- THE TIED CARD OF 'laws.FnNamePlaces'. -/
def fnNamePlacesCard : Claim7 := { stood := { row := fnNamePlacesRow, standIns := [], harness := (true, "f5f7e6cc2ce3ba8e549d987707534e9e26377d92d0d625d5cbac3d6398a6cd23"), looks := false }, kinds := [], alts := [], laidByText := true, laidKinds := [.data, .pinned, .pinned], laidTests := true, laidLooks := .later }
def FnNamePlacesCardSaid : Prop := Claim7.holds Tryd.pinned (.plain (OpenSpec.ofChange fnNamePlacesSpec)) fnNamePlacesCard

/-- THE TIED CARD OF 'laws.FnNameRune'. -/
def fnNameRuneCard : Claim7 := { stood := { row := fnNameRuneRow, standIns := [], harness := (true, "f5f7e6cc2ce3ba8e549d987707534e9e26377d92d0d625d5cbac3d6398a6cd23"), looks := false }, kinds := [], alts := [], laidByText := true, laidKinds := [.data, .pinned, .pinned], laidTests := true, laidLooks := .later }
def FnNameRuneCardSaid : Prop := Claim7.holds Tryd.pinned (.plain (OpenSpec.ofChange fnNameRuneSpec)) fnNameRuneCard

/-- THE SECOND FORM's CARD OF 'laws.FnNamePlaces'. -/
def fnNamePlacesUptoCard : Claim7 := { stood := { row := fnNamePlacesUptoRow, standIns := [], harness := (true, "f5f7e6cc2ce3ba8e549d987707534e9e26377d92d0d625d5cbac3d6398a6cd23"), looks := false }, kinds := [], alts := [], laidByText := true, laidKinds := [.data, .pinned, .pinned], laidTests := true, laidLooks := .later }
def FnNamePlacesUptoCardSaid : Prop := Claim7.holds Tryd.pinned (.plain (OpenSpec.upto fnNamePlacesSpec)) fnNamePlacesUptoCard

/-- THE SECOND FORM's CARD OF 'laws.FnNameRune'. -/
def fnNameRuneUptoCard : Claim7 := { stood := { row := fnNameRuneUptoRow, standIns := [], harness := (true, "f5f7e6cc2ce3ba8e549d987707534e9e26377d92d0d625d5cbac3d6398a6cd23"), looks := false }, kinds := [], alts := [], laidByText := true, laidKinds := [.data, .pinned, .pinned], laidTests := true, laidLooks := .later }
def FnNameRuneUptoCardSaid : Prop := Claim7.holds Tryd.pinned (.plain (OpenSpec.upto fnNameRuneSpec)) fnNameRuneUptoCard
end Rows
end Go.Proofs.YtmadokndnpdbcaaDoor
