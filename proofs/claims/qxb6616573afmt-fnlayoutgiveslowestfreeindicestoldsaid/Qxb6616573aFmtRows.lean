/-
  No cell of these rows narrows 'for every input' (looked for: loops, veiled, ifaces, maps, wideKeys, modest, calm, conditions, laid).
  DERIVED. THE GIVEN ROWS OF THIS SEAT. 2 by the template 'for every input the law returns true; each argument reads behind the call as it read before'; 0 by the template 'total and deterministic' (their statements: Qxb6616573aFmtTotals.lean).
  GIVEN WITH THE SEED: the statements are not yours to turn. If you find one false, say at which input.
  Laid BY PROGRAM, IN A SANDBOX (cutbox-rows.mjs): the forced cells as the released guide's own fill.sh prints them over the translation 2e14ae98cd08585b… (all of the seat's roots in one cut). By AI agents, Wed Nov 11 2026. No macro, syntax, notation, axiom, sorry.
-/
import Derived.Test.Qxb6616573aFmtChecked
import GoSem.Claim
import GoSem.ClaimJoined
import GoSem.ClaimMapViews
import Derived.JoinedTies
import Derived.KernelRfl
namespace Go.Proofs.Qxb6616573aFmt
/- THE CELL 'sum', in the pinned program and in every row, IS THE sha256 OF THE DUMP (.gsa) THAT Qxb6616573aFmtProg.lean LOADS. Nothing in Lean hashes anything: it is a label: what it is worth is what the hold of that sum in a sandbox is worth. -/
noncomputable def Tryf.pinned : Pinned := { name := "qxb6616573afmt", sum := "2e14ae98cd08585b2b9e09d633cf60f23ae1aab40fd5affc55aefb4255dc051f", checked := Tryf.checked }
namespace Rows
def none {H : Type} : Left H := { results := [], args := [] }

/-- 'zzlaws_pkg_jvm_b1.FnLayoutGivesLowestFreeIndices': WHATEVER THE INPUT: true; the input reads as it did. -/
def fnLayoutGivesLowestFreeIndicesSpec : ChangeSpec := { name := "fnLayoutGivesLowestFreeIndices", fn := fun _ => fun
  | [d1, d2, d3, d4] => { results := [.lit (.bool true)], args := [d1, d2, d3, d4] }
  | _ => none }
def fnLayoutGivesLowestFreeIndicesRow : OpenClaim := { program := "qxb6616573afmt", sum := "2e14ae98cd08585b2b9e09d633cf60f23ae1aab40fd5affc55aefb4255dc051f", func := "example.com/lowline/lowline/zzlaws_pkg_jvm_b1.FnLayoutGivesLowestFreeIndices", spec := "fnLayoutGivesLowestFreeIndices", stops := ["fmt.Sprintf, its operands' methods called"], inPlace := ["fmt.Sprintf"], unfollowed := true, recurses := true, apart := false }
/-- NO THEOREM (fmt's text is open here; it may be false): for the released tool's asking of the row's closed facts alone. THE STATEMENT IS 'FnLayoutGivesLowestFreeIndicesToldSaid' (Qxb6616573aFmtCards.lean). -/
def FnLayoutGivesLowestFreeIndicesFormAsk : Prop := fnLayoutGivesLowestFreeIndicesRow.holds Tryf.pinned (OpenSpec.ofChange fnLayoutGivesLowestFreeIndicesSpec)

/-- ITS FALSE NEIGHBOUR: 'it returns false'. Refute it at one input. -/
def fnLayoutGivesLowestFreeIndicesWrong : ChangeSpec := { name := "fnLayoutGivesLowestFreeIndices", fn := fun _ => fun
  | [d1, d2, d3, d4] => { results := [.lit (.bool false)], args := [d1, d2, d3, d4] }
  | _ => none }
def FnLayoutGivesLowestFreeIndicesWrongFormAsk : Prop := fnLayoutGivesLowestFreeIndicesRow.holds Tryf.pinned (OpenSpec.ofChange fnLayoutGivesLowestFreeIndicesWrong)

/-- 'zzlaws_pkg_jvm_b1.FnLayoutErrorFreeExactlyWhenDense': WHATEVER THE INPUT: true; the input reads as it did. -/
def fnLayoutErrorFreeExactlyWhenDenseSpec : ChangeSpec := { name := "fnLayoutErrorFreeExactlyWhenDense", fn := fun _ => fun
  | [d1, d2, d3, d4] => { results := [.lit (.bool true)], args := [d1, d2, d3, d4] }
  | _ => none }
def fnLayoutErrorFreeExactlyWhenDenseRow : OpenClaim := { program := "qxb6616573afmt", sum := "2e14ae98cd08585b2b9e09d633cf60f23ae1aab40fd5affc55aefb4255dc051f", func := "example.com/lowline/lowline/zzlaws_pkg_jvm_b1.FnLayoutErrorFreeExactlyWhenDense", spec := "fnLayoutErrorFreeExactlyWhenDense", stops := ["fmt.Sprintf, its operands' methods called"], inPlace := ["fmt.Sprintf"], unfollowed := true, recurses := true, apart := false }
/-- NO THEOREM (fmt's text is open here; it may be false): for the released tool's asking of the row's closed facts alone. THE STATEMENT IS 'FnLayoutErrorFreeExactlyWhenDenseToldSaid' (Qxb6616573aFmtCards.lean). -/
def FnLayoutErrorFreeExactlyWhenDenseFormAsk : Prop := fnLayoutErrorFreeExactlyWhenDenseRow.holds Tryf.pinned (OpenSpec.ofChange fnLayoutErrorFreeExactlyWhenDenseSpec)

/-- ITS FALSE NEIGHBOUR: 'it returns false'. Refute it at one input. -/
def fnLayoutErrorFreeExactlyWhenDenseWrong : ChangeSpec := { name := "fnLayoutErrorFreeExactlyWhenDense", fn := fun _ => fun
  | [d1, d2, d3, d4] => { results := [.lit (.bool false)], args := [d1, d2, d3, d4] }
  | _ => none }
def FnLayoutErrorFreeExactlyWhenDenseWrongFormAsk : Prop := fnLayoutErrorFreeExactlyWhenDenseRow.holds Tryf.pinned (OpenSpec.ofChange fnLayoutErrorFreeExactlyWhenDenseWrong)

end Rows
end Go.Proofs.Qxb6616573aFmt
