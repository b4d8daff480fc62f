/-
  DERIVED. GIVEN WITH THE SEED: THE CARDS: each row of YtjcmdkfmgmnbhaaDoorRows.lean that lists a variable, with what it lists TIED to the program's text (the seventh form; the later family's looks); each row that meets fmt, with fmt's text TOLD by the authors' own Lean function (tested against real Go, not proved from fmt's source: count such statements apart). THE CARD IS WHAT COUNTS. Prove the row's statement (the work); the ties are given (YtjcmdkfmgmnbhaaDoorTie.lean); close each card by the builder's one call (the guide's Derived/Test/ToyasCard.lean, 'card_holds'). Laid BY PROGRAM, IN A SANDBOX (cutbox-door.mjs). By AI agents, Wed Nov 11 2026. No macro, syntax, notation, axiom, sorry.
-/
import Derived.Test.YtjcmdkfmgmnbhaaDoorRows
import GoSem.ClaimSeven
namespace Go.Proofs.YtjcmdkfmgmnbhaaDoor
namespace Rows

/-- THE TIED CARD OF 'laws.FnSpread'. -/
def fnSpreadCard : Claim7 := { stood := { row := fnSpreadRow, standIns := [], harness := (true, "0366f0623067a901364f850a46246930dca958d41637e98ea4f83c08f445c239"), looks := true }, kinds := [], alts := [], laidByText := true, laidKinds := [.data, .data, .data, .sentinel, .sentinel], laidTests := true, laidLooks := .later }
def FnSpreadCardSaid : Prop := Claim7.holds Tryd.pinned (.plain (OpenSpec.ofChange fnSpreadSpec)) fnSpreadCard

/-- THE TIED CARD OF 'laws.FnDuration'. -/
def fnDurationCard : Claim7 := { stood := { row := fnDurationRow, standIns := [], harness := (true, "0366f0623067a901364f850a46246930dca958d41637e98ea4f83c08f445c239"), looks := true }, kinds := [], alts := [], laidByText := true, laidKinds := [.data, .data, .data, .sentinel, .sentinel], laidTests := true, laidLooks := .later }
def FnDurationCardSaid : Prop := Claim7.holds Tryd.pinned (.plain (OpenSpec.ofChange fnDurationSpec)) fnDurationCard

/-- THE SECOND FORM's CARD OF 'laws.FnSpread'. -/
def fnSpreadUptoCard : Claim7 := { stood := { row := fnSpreadUptoRow, standIns := [], harness := (true, "0366f0623067a901364f850a46246930dca958d41637e98ea4f83c08f445c239"), looks := true }, kinds := [], alts := [], laidByText := true, laidKinds := [.data, .data, .data, .sentinel, .sentinel], laidTests := true, laidLooks := .later }
def FnSpreadUptoCardSaid : Prop := Claim7.holds Tryd.pinned (.plain (OpenSpec.upto fnSpreadSpec)) fnSpreadUptoCard

/-- THE SECOND FORM's CARD OF 'laws.FnDuration'. -/
def fnDurationUptoCard : Claim7 := { stood := { row := fnDurationUptoRow, standIns := [], harness := (true, "0366f0623067a901364f850a46246930dca958d41637e98ea4f83c08f445c239"), looks := true }, kinds := [], alts := [], laidByText := true, laidKinds := [.data, .data, .data, .sentinel, .sentinel], laidTests := true, laidLooks := .later }
def FnDurationUptoCardSaid : Prop := Claim7.holds Tryd.pinned (.plain (OpenSpec.upto fnDurationSpec)) fnDurationUptoCard
end Rows
end Go.Proofs.YtjcmdkfmgmnbhaaDoor
