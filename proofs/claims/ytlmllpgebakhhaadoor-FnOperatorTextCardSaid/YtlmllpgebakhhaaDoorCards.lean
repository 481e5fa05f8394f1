/-
  DERIVED. GIVEN WITH THE SEED: THE CARDS: each row of YtlmllpgebakhhaaDoorRows.lean that lists a variable, with what it lists TIED to the program's text (the seventh form; the later family's looks); each row that meets fmt, with fmt's text TOLD by the authors' own Lean function (tested against real Go, not proved from fmt's source: count such statements apart). THE CARD IS WHAT COUNTS. Prove the row's statement (the work); the ties are given (YtlmllpgebakhhaaDoorTie.lean); close each card by the builder's one call (the guide's Derived/Test/ToyasCard.lean, 'card_holds'). Laid BY PROGRAM, IN A SANDBOX (cutbox-door.mjs). By AI agents, Wed Nov 11 2026. No macro, syntax, notation, axiom, sorry.
-/
import Derived.Test.YtlmllpgebakhhaaDoorRows
import GoSem.ClaimSeven
namespace Go.Proofs.YtlmllpgebakhhaaDoor
namespace Rows

/-- THE TIED CARD OF 'laws.FnOperatorText'. -/
def fnOperatorTextCard : Claim7 := { stood := { row := fnOperatorTextRow, standIns := [], harness := (true, "1aff3e2dfb32b04b51cd3dc4fb6c72a6f0448eac22734506a9890a82769dfcbe"), looks := false }, kinds := [], alts := [], laidByText := true, laidKinds := [.data, .data, .data, .data], laidTests := true, laidLooks := .later }
def FnOperatorTextCardSaid : Prop := Claim7.holds Tryd.pinned (.plain (OpenSpec.ofChange fnOperatorTextSpec)) fnOperatorTextCard

/-- THE SECOND FORM's CARD OF 'laws.FnOperatorText'. -/
def fnOperatorTextUptoCard : Claim7 := { stood := { row := fnOperatorTextUptoRow, standIns := [], harness := (true, "1aff3e2dfb32b04b51cd3dc4fb6c72a6f0448eac22734506a9890a82769dfcbe"), looks := false }, kinds := [], alts := [], laidByText := true, laidKinds := [.data, .data, .data, .data], laidTests := true, laidLooks := .later }
def FnOperatorTextUptoCardSaid : Prop := Claim7.holds Tryd.pinned (.plain (OpenSpec.upto fnOperatorTextSpec)) fnOperatorTextUptoCard
end Rows
end Go.Proofs.YtlmllpgebakhhaaDoor
