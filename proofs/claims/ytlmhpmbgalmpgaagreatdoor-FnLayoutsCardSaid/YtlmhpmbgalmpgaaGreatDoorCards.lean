/-
  DERIVED. GIVEN WITH THE SEED: THE CARDS: each row of YtlmhpmbgalmpgaaGreatDoorRows.lean that lists a variable, with what it lists TIED to the program's text (the seventh form; the later family's looks); each row that meets fmt, with fmt's text TOLD by the authors' own Lean function (tested against real Go, not proved from fmt's source: count such statements apart). THE CARD IS WHAT COUNTS. Prove the row's statement (the work); the ties are given (YtlmhpmbgalmpgaaGreatDoorTie.lean); close each card by the builder's one call (the guide's Derived/Test/ToyasCard.lean, 'card_holds'). Laid BY PROGRAM, IN A SANDBOX (cutbox-door.mjs). By AI agents, Wed Nov 11 2026. No macro, syntax, notation, axiom, sorry.
-/
import Derived.Test.YtlmhpmbgalmpgaaGreatDoorRows
import GoSem.ClaimSeven
namespace Go.Proofs.YtlmhpmbgalmpgaaGreatDoor
namespace Rows

/-- THE TIED CARD OF 'laws.FnCompactTold'. -/
def fnCompactToldCard : Claim7 := { stood := { row := fnCompactToldRow, standIns := [], harness := (true, "f57af97c18ef0edb94ff1d6741135b84a278536e3072ac40f3187e549fc301e3"), looks := true }, kinds := [], alts := [], laidByText := true, laidKinds := [.data, .sentinel, .sentinel, .sentinel, .pinned, .pinned, .pinned, .pinned, .pinned, .pinned], laidTests := true, laidLooks := .later }
def FnCompactToldCardSaid : Prop := Claim7.holds Tryz.pinned (.plain (OpenSpec.ofChange fnCompactToldSpec)) fnCompactToldCard

/-- THE TIED CARD OF 'laws.FnIndentTold'. -/
def fnIndentToldCard : Claim7 := { stood := { row := fnIndentToldRow, standIns := [], harness := (true, "f57af97c18ef0edb94ff1d6741135b84a278536e3072ac40f3187e549fc301e3"), looks := true }, kinds := [], alts := [], laidByText := true, laidKinds := [.data, .sentinel, .sentinel, .sentinel, .pinned, .pinned, .pinned, .pinned, .pinned, .pinned], laidTests := true, laidLooks := .later }
def FnIndentToldCardSaid : Prop := Claim7.holds Tryz.pinned (.plain (OpenSpec.ofChange fnIndentToldSpec)) fnIndentToldCard

/-- THE TIED CARD OF 'laws.FnLayouts'. -/
def fnLayoutsCard : Claim7 := { stood := { row := fnLayoutsRow, standIns := [], harness := (true, "f57af97c18ef0edb94ff1d6741135b84a278536e3072ac40f3187e549fc301e3"), looks := true }, kinds := [], alts := [], laidByText := true, laidKinds := [.data, .sentinel, .sentinel, .sentinel, .pinned, .pinned, .pinned, .pinned, .pinned, .pinned], laidTests := true, laidLooks := .later }
def FnLayoutsCardSaid : Prop := Claim7.holds Tryz.pinned (.plain (OpenSpec.ofChange fnLayoutsSpec)) fnLayoutsCard

/-- THE SECOND FORM's CARD OF 'laws.FnCompactTold'. -/
def fnCompactToldUptoCard : Claim7 := { stood := { row := fnCompactToldUptoRow, standIns := [], harness := (true, "f57af97c18ef0edb94ff1d6741135b84a278536e3072ac40f3187e549fc301e3"), looks := true }, kinds := [], alts := [], laidByText := true, laidKinds := [.data, .sentinel, .sentinel, .sentinel, .pinned, .pinned, .pinned, .pinned, .pinned, .pinned], laidTests := true, laidLooks := .later }
def FnCompactToldUptoCardSaid : Prop := Claim7.holds Tryz.pinned (.plain (OpenSpec.upto fnCompactToldSpec)) fnCompactToldUptoCard

/-- THE SECOND FORM's CARD OF 'laws.FnIndentTold'. -/
def fnIndentToldUptoCard : Claim7 := { stood := { row := fnIndentToldUptoRow, standIns := [], harness := (true, "f57af97c18ef0edb94ff1d6741135b84a278536e3072ac40f3187e549fc301e3"), looks := true }, kinds := [], alts := [], laidByText := true, laidKinds := [.data, .sentinel, .sentinel, .sentinel, .pinned, .pinned, .pinned, .pinned, .pinned, .pinned], laidTests := true, laidLooks := .later }
def FnIndentToldUptoCardSaid : Prop := Claim7.holds Tryz.pinned (.plain (OpenSpec.upto fnIndentToldSpec)) fnIndentToldUptoCard

/-- THE SECOND FORM's CARD OF 'laws.FnLayouts'. -/
def fnLayoutsUptoCard : Claim7 := { stood := { row := fnLayoutsUptoRow, standIns := [], harness := (true, "f57af97c18ef0edb94ff1d6741135b84a278536e3072ac40f3187e549fc301e3"), looks := true }, kinds := [], alts := [], laidByText := true, laidKinds := [.data, .sentinel, .sentinel, .sentinel, .pinned, .pinned, .pinned, .pinned, .pinned, .pinned], laidTests := true, laidLooks := .later }
def FnLayoutsUptoCardSaid : Prop := Claim7.holds Tryz.pinned (.plain (OpenSpec.upto fnLayoutsSpec)) fnLayoutsUptoCard
end Rows
end Go.Proofs.YtlmhpmbgalmpgaaGreatDoor
