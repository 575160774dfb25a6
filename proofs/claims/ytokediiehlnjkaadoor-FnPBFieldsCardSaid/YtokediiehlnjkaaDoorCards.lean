/-
  DERIVED. GIVEN WITH THE SEED: THE CARDS: each row of YtokediiehlnjkaaDoorRows.lean that lists a variable, with what it lists TIED to the program's text (the seventh form; the later family's looks); each row that meets fmt, with fmt's text TOLD by the authors' own Lean function (tested against real Go, not proved from fmt's source: count such statements apart). THE CARD IS WHAT COUNTS. Prove the row's statement (the work); the ties are given (YtokediiehlnjkaaDoorTie.lean); close each card by the builder's one call (the guide's Derived/Test/ToyasCard.lean, 'card_holds'). Laid BY PROGRAM, IN A SANDBOX (cutbox-door.mjs). By AI agents, Wed Nov 11 2026. No macro, syntax, notation, axiom, sorry.
-/
import Derived.Test.YtokediiehlnjkaaDoorRows
import GoSem.ClaimSeven
namespace Go.Proofs.YtokediiehlnjkaaDoor
namespace Rows

/-- THE TIED CARD OF 'laws.FnPBAppends'. -/
def fnPBAppendsCard : Claim7 := { stood := { row := fnPBAppendsRow, standIns := [], harness := (true, "4e80878aa80d6fb69dd51fe2307f507bea5edcfa132d545bf29a8b166367ea32"), looks := false }, kinds := [], alts := [], laidByText := true, laidKinds := [.sentinel], laidTests := true, laidLooks := .later }
def FnPBAppendsCardSaid : Prop := Claim7.holds Tryd.pinned (.plain (OpenSpec.ofChange fnPBAppendsSpec)) fnPBAppendsCard

/-- THE TIED CARD OF 'laws.FnPBFields'. -/
def fnPBFieldsCard : Claim7 := { stood := { row := fnPBFieldsRow, standIns := [], harness := (true, "4e80878aa80d6fb69dd51fe2307f507bea5edcfa132d545bf29a8b166367ea32"), looks := false }, kinds := [], alts := [], laidByText := true, laidKinds := [.sentinel], laidTests := true, laidLooks := .later }
def FnPBFieldsCardSaid : Prop := Claim7.holds Tryd.pinned (.plain (OpenSpec.ofChange fnPBFieldsSpec)) fnPBFieldsCard

/-- THE SECOND FORM's CARD OF 'laws.FnPBAppends'. -/
def fnPBAppendsUptoCard : Claim7 := { stood := { row := fnPBAppendsUptoRow, standIns := [], harness := (true, "4e80878aa80d6fb69dd51fe2307f507bea5edcfa132d545bf29a8b166367ea32"), looks := false }, kinds := [], alts := [], laidByText := true, laidKinds := [.sentinel], laidTests := true, laidLooks := .later }
def FnPBAppendsUptoCardSaid : Prop := Claim7.holds Tryd.pinned (.plain (OpenSpec.upto fnPBAppendsSpec)) fnPBAppendsUptoCard

/-- THE SECOND FORM's CARD OF 'laws.FnPBFields'. -/
def fnPBFieldsUptoCard : Claim7 := { stood := { row := fnPBFieldsUptoRow, standIns := [], harness := (true, "4e80878aa80d6fb69dd51fe2307f507bea5edcfa132d545bf29a8b166367ea32"), looks := false }, kinds := [], alts := [], laidByText := true, laidKinds := [.sentinel], laidTests := true, laidLooks := .later }
def FnPBFieldsUptoCardSaid : Prop := Claim7.holds Tryd.pinned (.plain (OpenSpec.upto fnPBFieldsSpec)) fnPBFieldsUptoCard
end Rows
end Go.Proofs.YtokediiehlnjkaaDoor
