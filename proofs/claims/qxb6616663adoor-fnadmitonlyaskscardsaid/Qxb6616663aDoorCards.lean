/-
  DERIVED. GIVEN WITH THE SEED: THE CARDS: each row of Qxb6616663aDoorRows.lean that lists a variable, with what it lists TIED to the program's text (the seventh form; the later family's looks); each row that meets fmt, with fmt's text TOLD by the authors' own Lean function (tested against real Go, not proved from fmt's source: count such statements apart). THE CARD IS WHAT COUNTS. Prove the row's statement (the work); the ties are given (Qxb6616663aDoorTie.lean); close each card by the builder's one call (the guide's Derived/Test/ToyasCard.lean, 'card_holds'). Laid BY PROGRAM, IN A SANDBOX (cutbox-door.mjs). By AI agents, Wed Nov 11 2026. No macro, syntax, notation, axiom, sorry.
-/
import Derived.Test.Qxb6616663aDoorRows
import GoSem.ClaimSeven
namespace Go.Proofs.Qxb6616663aDoor
namespace Rows

/-- THE TIED CARD OF 'zzlaws_root_b1.FnAdmitOnlyAsks'. -/
def fnAdmitOnlyAsksCard : Claim7 := { stood := { row := fnAdmitOnlyAsksRow, standIns := [], harness := (true, "b6fe82e48c28fb1eddafe64b565b31d288c2aefa476b474fc47012af20f09b76"), looks := false }, kinds := [], alts := [], laidByText := true, laidKinds := [.sentinel], laidTests := true, laidLooks := .later }
def FnAdmitOnlyAsksCardSaid : Prop := Claim7.holds Tryd.pinned (.plain (OpenSpec.ofChange fnAdmitOnlyAsksSpec)) fnAdmitOnlyAsksCard
end Rows
end Go.Proofs.Qxb6616663aDoor
