/-
  DERIVED. GIVEN WITH THE SEED: THE CARDS: each row of YtcbpnbfkjdmfgaaDoorRows.lean that lists a variable, with what it lists TIED to the program's text (the seventh form; the later family's looks); each row that meets fmt, with fmt's text TOLD by the authors' own Lean function (tested against real Go, not proved from fmt's source: count such statements apart). THE CARD IS WHAT COUNTS. Prove the row's statement (the work); the ties are given (YtcbpnbfkjdmfgaaDoorTie.lean); close each card by the builder's one call (the guide's Derived/Test/ToyasCard.lean, 'card_holds'). Laid BY PROGRAM, IN A SANDBOX (cutbox-door.mjs). By AI agents, Wed Nov 11 2026. No macro, syntax, notation, axiom, sorry.
-/
import Derived.Test.YtcbpnbfkjdmfgaaDoorRows
import GoSem.ClaimSeven
namespace Go.Proofs.YtcbpnbfkjdmfgaaDoor
namespace Rows

/-- THE TIED CARD OF 'laws.FnVaHash'. -/
def fnVaHashCard : Claim7 := { stood := { row := fnVaHashRow, standIns := [], harness := (true, "4f3ad31663a9ec1c69195f669f058e00f42a319f0bca71da01f2ca96e2b56cbf"), looks := false }, kinds := [], alts := [], laidByText := true, laidKinds := [.data], laidTests := true, laidLooks := .later }
def FnVaHashCardSaid : Prop := Claim7.holds Tryd.pinned (.plain (OpenSpec.ofChange fnVaHashSpec)) fnVaHashCard

/-- THE SECOND FORM's CARD OF 'laws.FnVaHash'. -/
def fnVaHashUptoCard : Claim7 := { stood := { row := fnVaHashUptoRow, standIns := [], harness := (true, "4f3ad31663a9ec1c69195f669f058e00f42a319f0bca71da01f2ca96e2b56cbf"), looks := false }, kinds := [], alts := [], laidByText := true, laidKinds := [.data], laidTests := true, laidLooks := .later }
def FnVaHashUptoCardSaid : Prop := Claim7.holds Tryd.pinned (.plain (OpenSpec.upto fnVaHashSpec)) fnVaHashUptoCard
end Rows
end Go.Proofs.YtcbpnbfkjdmfgaaDoor
