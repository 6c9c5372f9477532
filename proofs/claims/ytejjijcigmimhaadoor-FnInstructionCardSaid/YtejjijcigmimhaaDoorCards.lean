/-
  DERIVED. GIVEN WITH THE SEED: THE CARDS: each row of YtejjijcigmimhaaDoorRows.lean that lists a variable, with what it lists TIED to the program's text (the seventh form; the later family's looks); each row that meets fmt, with fmt's text TOLD by the authors' own Lean function (tested against real Go, not proved from fmt's source: count such statements apart). THE CARD IS WHAT COUNTS. Prove the row's statement (the work); the ties are given (YtejjijcigmimhaaDoorTie.lean); close each card by the builder's one call (the guide's Derived/Test/ToyasCard.lean, 'card_holds'). Laid BY PROGRAM, IN A SANDBOX (cutbox-door.mjs). By AI agents, Wed Nov 11 2026. No macro, syntax, notation, axiom, sorry.
-/
import Derived.Test.YtejjijcigmimhaaDoorRows
import GoSem.ClaimSeven
namespace Go.Proofs.YtejjijcigmimhaaDoor
namespace Rows

/-- THE TIED CARD OF 'laws.FnInstruction'. -/
def fnInstructionCard : Claim7 := { stood := { row := fnInstructionRow, standIns := [], harness := (true, "20fb900dffb70ee3b51a88c61203cab0f5039e1eaa5a17f24b6c5c935d822345"), looks := false }, kinds := [], alts := [], laidByText := true, laidKinds := [.widerDeep], laidTests := true, laidLooks := .later }
def FnInstructionCardSaid : Prop := Claim7.holds Tryd.pinned (.plain (OpenSpec.ofChange fnInstructionSpec)) fnInstructionCard

/-- THE TIED CARD OF 'laws.FnPrecedence'. -/
def fnPrecedenceCard : Claim7 := { stood := { row := fnPrecedenceRow, standIns := [], harness := (true, "20fb900dffb70ee3b51a88c61203cab0f5039e1eaa5a17f24b6c5c935d822345"), looks := false }, kinds := [], alts := [], laidByText := true, laidKinds := [.data, .data, .data, .data], laidTests := true, laidLooks := .later }
def FnPrecedenceCardSaid : Prop := Claim7.holds Tryd.pinned (.plain (OpenSpec.ofChange fnPrecedenceSpec)) fnPrecedenceCard

/-- THE SECOND FORM's CARD OF 'laws.FnInstruction'. -/
def fnInstructionUptoCard : Claim7 := { stood := { row := fnInstructionUptoRow, standIns := [], harness := (true, "20fb900dffb70ee3b51a88c61203cab0f5039e1eaa5a17f24b6c5c935d822345"), looks := false }, kinds := [], alts := [], laidByText := true, laidKinds := [.widerDeep], laidTests := true, laidLooks := .later }
def FnInstructionUptoCardSaid : Prop := Claim7.holds Tryd.pinned (.plain (OpenSpec.upto fnInstructionSpec)) fnInstructionUptoCard

/-- THE SECOND FORM's CARD OF 'laws.FnPrecedence'. -/
def fnPrecedenceUptoCard : Claim7 := { stood := { row := fnPrecedenceUptoRow, standIns := [], harness := (true, "20fb900dffb70ee3b51a88c61203cab0f5039e1eaa5a17f24b6c5c935d822345"), looks := false }, kinds := [], alts := [], laidByText := true, laidKinds := [.data, .data, .data, .data], laidTests := true, laidLooks := .later }
def FnPrecedenceUptoCardSaid : Prop := Claim7.holds Tryd.pinned (.plain (OpenSpec.upto fnPrecedenceSpec)) fnPrecedenceUptoCard
end Rows
end Go.Proofs.YtejjijcigmimhaaDoor
