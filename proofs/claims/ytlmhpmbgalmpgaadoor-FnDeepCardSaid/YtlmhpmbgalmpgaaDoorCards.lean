/-
  DERIVED. GIVEN WITH THE SEED: THE CARDS: each row of YtlmhpmbgalmpgaaDoorRows.lean that lists a variable, with what it lists TIED to the program's text (the seventh form; the later family's looks); each row that meets fmt, with fmt's text TOLD by the authors' own Lean function (tested against real Go, not proved from fmt's source: count such statements apart). THE CARD IS WHAT COUNTS. Prove the row's statement (the work); the ties are given (YtlmhpmbgalmpgaaDoorTie.lean); close each card by the builder's one call (the guide's Derived/Test/ToyasCard.lean, 'card_holds'). Laid BY PROGRAM, IN A SANDBOX (cutbox-door.mjs). By AI agents, Wed Nov 11 2026. No macro, syntax, notation, axiom, sorry.
-/
import Derived.Test.YtlmhpmbgalmpgaaDoorRows
import GoSem.ClaimSeven
namespace Go.Proofs.YtlmhpmbgalmpgaaDoor
namespace Rows

/-- THE TIED CARD OF 'laws.FnHTMLTold'. -/
def fnHTMLToldCard : Claim7 := { stood := { row := fnHTMLToldRow, standIns := [], harness := (true, "388ef19d390778b73a774aae1387191cc8744289854789a4e44d894634ce03c8"), looks := true }, kinds := [], alts := [], laidByText := true, laidKinds := [.sentinel], laidTests := true, laidLooks := .later }
def FnHTMLToldCardSaid : Prop := Claim7.holds Tryd.pinned (.plain (OpenSpec.ofChange fnHTMLToldSpec)) fnHTMLToldCard

/-- THE TIED CARD OF 'laws.FnDeep'. -/
def fnDeepCard : Claim7 := { stood := { row := fnDeepRow, standIns := [], harness := (true, "388ef19d390778b73a774aae1387191cc8744289854789a4e44d894634ce03c8"), looks := true }, kinds := [], alts := [], laidByText := true, laidKinds := [.data, .sentinel, .sentinel, .sentinel, .pinned, .pinned, .pinned, .pinned, .pinned, .pinned], laidTests := true, laidLooks := .later }
def FnDeepCardSaid : Prop := Claim7.holds Tryd.pinned (.plain (OpenSpec.ofChange fnDeepSpec)) fnDeepCard

/-- THE SECOND FORM's CARD OF 'laws.FnHTMLTold'. -/
def fnHTMLToldUptoCard : Claim7 := { stood := { row := fnHTMLToldUptoRow, standIns := [], harness := (true, "388ef19d390778b73a774aae1387191cc8744289854789a4e44d894634ce03c8"), looks := true }, kinds := [], alts := [], laidByText := true, laidKinds := [.sentinel], laidTests := true, laidLooks := .later }
def FnHTMLToldUptoCardSaid : Prop := Claim7.holds Tryd.pinned (.plain (OpenSpec.upto fnHTMLToldSpec)) fnHTMLToldUptoCard

/-- THE SECOND FORM's CARD OF 'laws.FnDeep'. -/
def fnDeepUptoCard : Claim7 := { stood := { row := fnDeepUptoRow, standIns := [], harness := (true, "388ef19d390778b73a774aae1387191cc8744289854789a4e44d894634ce03c8"), looks := true }, kinds := [], alts := [], laidByText := true, laidKinds := [.data, .sentinel, .sentinel, .sentinel, .pinned, .pinned, .pinned, .pinned, .pinned, .pinned], laidTests := true, laidLooks := .later }
def FnDeepUptoCardSaid : Prop := Claim7.holds Tryd.pinned (.plain (OpenSpec.upto fnDeepSpec)) fnDeepUptoCard
end Rows
end Go.Proofs.YtlmhpmbgalmpgaaDoor
