/-
  DERIVED. GIVEN WITH THE SEED: THE CARDS: each row of Qxb6616573aFmtRows.lean that lists a variable, with what it lists TIED to the program's text (the seventh form; the later family's looks); each row that meets fmt, with fmt's text TOLD by the authors' own Lean function (tested against real Go, not proved from fmt's source: count such statements apart). THE CARD IS WHAT COUNTS. Prove the row's statement (the work); the ties are given (Qxb6616573aFmtTie.lean); close each card by the builder's one call (the guide's Derived/Test/ToyasCard.lean, 'card_holds'). Laid BY PROGRAM, IN A SANDBOX (cutbox-door.mjs). By AI agents, Wed Nov 11 2026. No macro, syntax, notation, axiom, sorry.
-/
import Derived.Test.Qxb6616573aFmtRows
import GoSem.ClaimSeven
namespace Go.Proofs.Qxb6616573aFmt
namespace Rows

/-- THE TOLD CARD OF 'zzlaws_pkg_jvm_b1.FnLayoutGivesLowestFreeIndices'. -/
def fnLayoutGivesLowestFreeIndicesCard : Claim7 := { stood := { row := fnLayoutGivesLowestFreeIndicesRow, standIns := [], harness := (true, "3344928d43ee2d4fe73bfa4c86d15f78375baf8d53f0e194d0e1a3d393c7402b"), looks := false }, told := true, goes := false }
def FnLayoutGivesLowestFreeIndicesToldSaid : Prop := Claim7.holds Tryf.pinned (.plain (OpenSpec.ofChange fnLayoutGivesLowestFreeIndicesSpec)) fnLayoutGivesLowestFreeIndicesCard
/-- ITS FALSE NEIGHBOUR. Refute it at one input. -/
def FnLayoutGivesLowestFreeIndicesToldWrongFalsely : Prop := Claim7.holds Tryf.pinned (.plain (OpenSpec.ofChange fnLayoutGivesLowestFreeIndicesWrong)) fnLayoutGivesLowestFreeIndicesCard

/-- THE TOLD CARD OF 'zzlaws_pkg_jvm_b1.FnLayoutErrorFreeExactlyWhenDense'. -/
def fnLayoutErrorFreeExactlyWhenDenseCard : Claim7 := { stood := { row := fnLayoutErrorFreeExactlyWhenDenseRow, standIns := [], harness := (true, "3344928d43ee2d4fe73bfa4c86d15f78375baf8d53f0e194d0e1a3d393c7402b"), looks := false }, told := true, goes := false }
def FnLayoutErrorFreeExactlyWhenDenseToldSaid : Prop := Claim7.holds Tryf.pinned (.plain (OpenSpec.ofChange fnLayoutErrorFreeExactlyWhenDenseSpec)) fnLayoutErrorFreeExactlyWhenDenseCard
/-- ITS FALSE NEIGHBOUR. Refute it at one input. -/
def FnLayoutErrorFreeExactlyWhenDenseToldWrongFalsely : Prop := Claim7.holds Tryf.pinned (.plain (OpenSpec.ofChange fnLayoutErrorFreeExactlyWhenDenseWrong)) fnLayoutErrorFreeExactlyWhenDenseCard
end Rows
end Go.Proofs.Qxb6616573aFmt
