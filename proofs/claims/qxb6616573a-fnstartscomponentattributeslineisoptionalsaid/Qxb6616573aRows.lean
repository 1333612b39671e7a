/-
  No cell of these rows narrows 'for every input' (looked for: loops, veiled, ifaces, maps, wideKeys, modest, calm, conditions, laid).
  DERIVED. THE GIVEN ROWS OF THIS SEAT. 1 by the template 'for every input the law returns true; each argument reads behind the call as it read before'; 0 by the template 'total and deterministic' (their statements: Qxb6616573aTotals.lean).
  GIVEN WITH THE SEED: the statements are not yours to turn. If you find one false, say at which input.
  Laid BY PROGRAM, IN A SANDBOX (cutbox-rows.mjs): the forced cells as the released guide's own fill.sh prints them over the translation 2ae48975c9cf7d51… (all of the seat's roots in one cut). By AI agents, Wed Nov 11 2026. No macro, syntax, notation, axiom, sorry.
-/
import Derived.Test.Qxb6616573aChecked
import GoSem.Claim
import GoSem.ClaimJoined
import GoSem.ClaimMapViews
import Derived.JoinedTies
import Derived.KernelRfl
namespace Go.Proofs.Qxb6616573a
/- THE CELL 'sum', in the pinned program and in every row, IS THE sha256 OF THE DUMP (.gsa) THAT Qxb6616573aProg.lean LOADS. Nothing in Lean hashes anything: it is a label: what it is worth is what the hold of that sum in a sandbox is worth. -/
noncomputable def Try.pinned : Pinned := { name := "qxb6616573a", sum := "2ae48975c9cf7d51cb9db66eb7e5d701d82823946057bb427b9c3f95badb222b", checked := Try.checked }
namespace Rows
def none {H : Type} : Left H := { results := [], args := [] }

/-- 'zzlaws_pkg_jvm_b1.FnStartsComponentAttributesLineIsOptional': WHATEVER THE INPUT: true; the input reads as it did. -/
def fnStartsComponentAttributesLineIsOptionalSpec : ChangeSpec := { name := "fnStartsComponentAttributesLineIsOptional", fn := fun _ => fun
  | [d1, d2, d3, d4, d5, d6] => { results := [.lit (.bool true)], args := [d1, d2, d3, d4, d5, d6] }
  | _ => none }
def fnStartsComponentAttributesLineIsOptionalRow : OpenClaim := { program := "qxb6616573a", sum := "2ae48975c9cf7d51cb9db66eb7e5d701d82823946057bb427b9c3f95badb222b", func := "example.com/lowline/lowline/zzlaws_pkg_jvm_b1.FnStartsComponentAttributesLineIsOptional", spec := "fnStartsComponentAttributesLineIsOptional", apart := false }
def FnStartsComponentAttributesLineIsOptionalSaid : Prop := fnStartsComponentAttributesLineIsOptionalRow.holds Try.pinned (OpenSpec.ofChange fnStartsComponentAttributesLineIsOptionalSpec)

/-- ITS FALSE NEIGHBOUR: 'it returns false'. Refute it at one input. -/
def fnStartsComponentAttributesLineIsOptionalWrong : ChangeSpec := { name := "fnStartsComponentAttributesLineIsOptional", fn := fun _ => fun
  | [d1, d2, d3, d4, d5, d6] => { results := [.lit (.bool false)], args := [d1, d2, d3, d4, d5, d6] }
  | _ => none }
def FnStartsComponentAttributesLineIsOptionalWrongFalsely : Prop := fnStartsComponentAttributesLineIsOptionalRow.holds Try.pinned (OpenSpec.ofChange fnStartsComponentAttributesLineIsOptionalWrong)

end Rows
end Go.Proofs.Qxb6616573a
