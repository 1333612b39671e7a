/-
  No cell of these rows narrows 'for every input' (looked for: loops, veiled, ifaces, maps, wideKeys, modest, calm, conditions, laid).
  DERIVED. THE GIVEN ROWS OF THIS SEAT. 1 by the template 'for every input the law returns true; each argument reads behind the call as it read before'; 0 by the template 'total and deterministic' (their statements: Qxb6617106aTotals.lean).
  GIVEN WITH THE SEED: the statements are not yours to turn. If you find one false, say at which input.
  Laid BY PROGRAM, IN A SANDBOX (cutbox-rows.mjs): the forced cells as the released guide's own fill.sh prints them over the translation 5b1ff7ace7e8c76b… (all of the seat's roots in one cut). By AI agents, Wed Nov 11 2026. No macro, syntax, notation, axiom, sorry.
-/
import Derived.Test.Qxb6617106aChecked
import GoSem.Claim
import GoSem.ClaimJoined
import GoSem.ClaimMapViews
import Derived.JoinedTies
import Derived.KernelRfl
namespace Go.Proofs.Qxb6617106a
/- THE CELL 'sum', in the pinned program and in every row, IS THE sha256 OF THE DUMP (.gsa) THAT Qxb6617106aProg.lean LOADS. Nothing in Lean hashes anything: it is a label: what it is worth is what the hold of that sum in a sandbox is worth. -/
noncomputable def Try.pinned : Pinned := { name := "qxb6617106a", sum := "5b1ff7ace7e8c76bede2ac09a4e3e42d4be280c92b67ad7314f66ce252196c46", checked := Try.checked }
namespace Rows
def none {H : Type} : Left H := { results := [], args := [] }

/-- 'zzlaws_internal_bloom_b1.FnLocateBlocksNestAndFollowTopBits': WHATEVER THE INPUT: true; the input reads as it did. -/
def fnLocateBlocksNestAndFollowTopBitsSpec : ChangeSpec := { name := "fnLocateBlocksNestAndFollowTopBits", fn := fun _ => fun
  | [d1, d2, d3, d4] => { results := [.lit (.bool true)], args := [d1, d2, d3, d4] }
  | _ => none }
def fnLocateBlocksNestAndFollowTopBitsRow : OpenClaim := { program := "qxb6617106a", sum := "5b1ff7ace7e8c76bede2ac09a4e3e42d4be280c92b67ad7314f66ce252196c46", func := "example.com/latchkey/latchkey/zzlaws_internal_bloom_b1.FnLocateBlocksNestAndFollowTopBits", spec := "fnLocateBlocksNestAndFollowTopBits", apart := false }
def FnLocateBlocksNestAndFollowTopBitsSaid : Prop := fnLocateBlocksNestAndFollowTopBitsRow.holds Try.pinned (OpenSpec.ofChange fnLocateBlocksNestAndFollowTopBitsSpec)

/-- ITS FALSE NEIGHBOUR: 'it returns false'. Refute it at one input. -/
def fnLocateBlocksNestAndFollowTopBitsWrong : ChangeSpec := { name := "fnLocateBlocksNestAndFollowTopBits", fn := fun _ => fun
  | [d1, d2, d3, d4] => { results := [.lit (.bool false)], args := [d1, d2, d3, d4] }
  | _ => none }
def FnLocateBlocksNestAndFollowTopBitsWrongFalsely : Prop := fnLocateBlocksNestAndFollowTopBitsRow.holds Try.pinned (OpenSpec.ofChange fnLocateBlocksNestAndFollowTopBitsWrong)

end Rows
end Go.Proofs.Qxb6617106a
