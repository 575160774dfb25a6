/-
  DERIVED. GIVEN WITH THE SEED: THE CARDS: each row of YtlagcfdojbjmmaaDoorRows.lean that lists a variable, with what it lists TIED to the program's text (the seventh form; the later family's looks); each row that meets fmt, with fmt's text TOLD by the authors' own Lean function (tested against real Go, not proved from fmt's source: count such statements apart). THE CARD IS WHAT COUNTS. Prove the row's statement (the work); the ties are given (YtlagcfdojbjmmaaDoorTie.lean); close each card by the builder's one call (the guide's Derived/Test/ToyasCard.lean, 'card_holds'). Laid BY PROGRAM, IN A SANDBOX (cutbox-door.mjs). By AI agents, Wed Nov 11 2026. No macro, syntax, notation, axiom, sorry.
-/
import Derived.Test.YtlagcfdojbjmmaaDoorRows
import GoSem.ClaimSeven
namespace Go.Proofs.YtlagcfdojbjmmaaDoor
namespace Rows

/-- THE TIED CARD OF 'laws.FnMCIs'. -/
def fnMCIsCard : Claim7 := { stood := { row := fnMCIsRow, standIns := [], harness := (true, "d7262ededca62e964fae7cfeaf9e9bf29b6565f509e630c36b2b2a2ce610329d"), looks := false }, kinds := [], alts := [], laidByText := true, laidKinds := [.data, .data, .data, .data, .data, .data, .data, .data, .data, .data, .data, .data, .data, .data, .data, .data, .data, .data, .data], laidTests := true, laidLooks := .later }
def FnMCIsCardSaid : Prop := Claim7.holds Tryd.pinned (.plain (OpenSpec.ofChange fnMCIsSpec)) fnMCIsCard

/-- THE TIED CARD OF 'laws.FnJSEscapes'. -/
def fnJSEscapesCard : Claim7 := { stood := { row := fnJSEscapesRow, standIns := [], harness := (true, "d7262ededca62e964fae7cfeaf9e9bf29b6565f509e630c36b2b2a2ce610329d"), looks := false }, kinds := [], alts := [], laidByText := true, laidKinds := [.data], laidTests := true, laidLooks := .later }
def FnJSEscapesCardSaid : Prop := Claim7.holds Tryd.pinned (.plain (OpenSpec.ofChange fnJSEscapesSpec)) fnJSEscapesCard

/-- THE SECOND FORM's CARD OF 'laws.FnMCIs'. -/
def fnMCIsUptoCard : Claim7 := { stood := { row := fnMCIsUptoRow, standIns := [], harness := (true, "d7262ededca62e964fae7cfeaf9e9bf29b6565f509e630c36b2b2a2ce610329d"), looks := false }, kinds := [], alts := [], laidByText := true, laidKinds := [.data, .data, .data, .data, .data, .data, .data, .data, .data, .data, .data, .data, .data, .data, .data, .data, .data, .data, .data], laidTests := true, laidLooks := .later }
def FnMCIsUptoCardSaid : Prop := Claim7.holds Tryd.pinned (.plain (OpenSpec.upto fnMCIsSpec)) fnMCIsUptoCard

/-- THE SECOND FORM's CARD OF 'laws.FnJSEscapes'. -/
def fnJSEscapesUptoCard : Claim7 := { stood := { row := fnJSEscapesUptoRow, standIns := [], harness := (true, "d7262ededca62e964fae7cfeaf9e9bf29b6565f509e630c36b2b2a2ce610329d"), looks := false }, kinds := [], alts := [], laidByText := true, laidKinds := [.data], laidTests := true, laidLooks := .later }
def FnJSEscapesUptoCardSaid : Prop := Claim7.holds Tryd.pinned (.plain (OpenSpec.upto fnJSEscapesSpec)) fnJSEscapesUptoCard
end Rows
end Go.Proofs.YtlagcfdojbjmmaaDoor
