/-
  DERIVED. GIVEN WITH THE SEED: THE CARDS: each row of YtbflcmcdmdicjaaDoorRows.lean that lists a variable, with what it lists TIED to the program's text (the seventh form; the later family's looks); each row that meets fmt, with fmt's text TOLD by the authors' own Lean function (tested against real Go, not proved from fmt's source: count such statements apart). THE CARD IS WHAT COUNTS. Prove the row's statement (the work); the ties are given (YtbflcmcdmdicjaaDoorTie.lean); close each card by the builder's one call (the guide's Derived/Test/ToyasCard.lean, 'card_holds'). Laid BY PROGRAM, IN A SANDBOX (cutbox-door.mjs). By AI agents, Wed Nov 11 2026. No macro, syntax, notation, axiom, sorry.
-/
import Derived.Test.YtbflcmcdmdicjaaDoorRows
import GoSem.ClaimSeven
namespace Go.Proofs.YtbflcmcdmdicjaaDoor
namespace Rows

/-- THE TIED CARD OF 'laws.FnField'. -/
def fnFieldCard : Claim7 := { stood := { row := fnFieldRow, standIns := [], harness := (true, "edc56a7176b2b8dbacf83988ea42e63e056ee165082d416e975fe45a093c1e3b"), looks := false }, kinds := [], alts := [], laidByText := true, laidKinds := [.data, .data, .data], laidTests := true, laidLooks := .later }
def FnFieldCardSaid : Prop := Claim7.holds Tryd.pinned (.plain (OpenSpec.ofChange fnFieldSpec)) fnFieldCard

/-- THE TIED CARD OF 'laws.FnCheck'. -/
def fnCheckCard : Claim7 := { stood := { row := fnCheckRow, standIns := [], harness := (true, "edc56a7176b2b8dbacf83988ea42e63e056ee165082d416e975fe45a093c1e3b"), looks := false }, kinds := [], alts := [], laidByText := true, laidKinds := [.data, .data, .data], laidTests := true, laidLooks := .later }
def FnCheckCardSaid : Prop := Claim7.holds Tryd.pinned (.plain (OpenSpec.ofChange fnCheckSpec)) fnCheckCard

/-- THE SECOND FORM's CARD OF 'laws.FnField'. -/
def fnFieldUptoCard : Claim7 := { stood := { row := fnFieldUptoRow, standIns := [], harness := (true, "edc56a7176b2b8dbacf83988ea42e63e056ee165082d416e975fe45a093c1e3b"), looks := false }, kinds := [], alts := [], laidByText := true, laidKinds := [.data, .data, .data], laidTests := true, laidLooks := .later }
def FnFieldUptoCardSaid : Prop := Claim7.holds Tryd.pinned (.plain (OpenSpec.upto fnFieldSpec)) fnFieldUptoCard

/-- THE SECOND FORM's CARD OF 'laws.FnCheck'. -/
def fnCheckUptoCard : Claim7 := { stood := { row := fnCheckUptoRow, standIns := [], harness := (true, "edc56a7176b2b8dbacf83988ea42e63e056ee165082d416e975fe45a093c1e3b"), looks := false }, kinds := [], alts := [], laidByText := true, laidKinds := [.data, .data, .data], laidTests := true, laidLooks := .later }
def FnCheckUptoCardSaid : Prop := Claim7.holds Tryd.pinned (.plain (OpenSpec.upto fnCheckSpec)) fnCheckUptoCard
end Rows
end Go.Proofs.YtbflcmcdmdicjaaDoor
