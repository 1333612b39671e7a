/-
  NARROWER THAN 'FOR EVERY INPUT', by the rows' own cells (each row's printed sentence says how): FnAdmitOnlyAsks: ifaces, laid.
  DERIVED. THE GIVEN ROWS OF THIS SEAT. 1 by the template 'for every input the law returns true; each argument reads behind the call as it read before'; 0 by the template 'total and deterministic' (their statements: Qxb6616663aDoorTotals.lean).
  GIVEN WITH THE SEED: the statements are not yours to turn. If you find one false, say at which input.
  Laid BY PROGRAM, IN A SANDBOX (cutbox-rows.mjs): the forced cells as the released guide's own fill.sh prints them over the translation 4c2ac3cb23db7b6a… (all of the seat's roots in one cut). By AI agents, Wed Nov 11 2026. No macro, syntax, notation, axiom, sorry.
-/
import Derived.Test.Qxb6616663aDoorChecked
import GoSem.Claim
import GoSem.ClaimJoined
import GoSem.ClaimMapViews
import Derived.JoinedTies
import Derived.KernelRfl
namespace Go.Proofs.Qxb6616663aDoor
/- THE CELL 'sum', in the pinned program and in every row, IS THE sha256 OF THE DUMP (.gsa) THAT Qxb6616663aDoorProg.lean LOADS. Nothing in Lean hashes anything: it is a label: what it is worth is what the hold of that sum in a sandbox is worth. -/
noncomputable def Tryd.pinned : Pinned := { name := "qxb6616663adoor", sum := "4c2ac3cb23db7b6a0c400aa689bc80bc8e116f1419a1fd49dd4fa7bc35d52ec0", checked := Tryd.checked }
namespace Rows
def none {H : Type} : Left H := { results := [], args := [] }

/- WHAT THE LISTED PACKAGE-LEVEL VARIABLES READ AS WHEN THE CALL BEGINS. Each datum BY PROGRAM (the guide's laid-datum.mjs) off the statement by which the dump's own 'gosem.cut.vars' lays the variable. In a bare row this is a premise. The card (Qxb6616663aDoorCards.lean) ties it to the program's text. -/
def laid_example_com_latchwork_latchwork_ErrTxDone {H : Type} : DataW H := .iface "*errors.errorString" (.ptr (.agg [.lit (.string [108, 97, 116, 99, 104, 119, 111, 114, 107, 58, 32, 116, 114, 97, 110, 115, 97, 99, 116, 105, 111, 110, 32, 104, 97, 115, 32, 97, 108, 114, 101, 97, 100, 121, 32, 101, 110, 100, 101, 100])]))

/-- 'zzlaws_root_b1.FnAdmitOnlyAsks': WHATEVER THE INPUT: true; the input reads as it did. -/
def fnAdmitOnlyAsksSpec : ChangeSpec := { name := "fnAdmitOnlyAsks", vars := ["example.com/latchwork/latchwork.ErrTxDone"], fn := fun _ => fun
  | [d1, d2, g1] => { results := [.lit (.bool true)], args := [d1, d2], vars := [g1] }
  | _ => none }
def fnAdmitOnlyAsksRow : OpenClaim := { program := "qxb6616663adoor", sum := "4c2ac3cb23db7b6a0c400aa689bc80bc8e116f1419a1fd49dd4fa7bc35d52ec0", func := "example.com/latchwork/latchwork/zzlaws_root_b1.FnAdmitOnlyAsks", spec := "fnAdmitOnlyAsks", inPlace := ["sync/atomic.StoreUint32", "sync/atomic.LoadUint32"], named := ["example.com/latchwork/latchwork.ErrTxDone"], ifaces := true, plainKeys := false, apart := false, laid := [("example.com/latchwork/latchwork.ErrTxDone", laid_example_com_latchwork_latchwork_ErrTxDone)] }
def FnAdmitOnlyAsksSaid : Prop := fnAdmitOnlyAsksRow.holds Tryd.pinned (OpenSpec.ofChange fnAdmitOnlyAsksSpec)

/-- ITS FALSE NEIGHBOUR: 'it returns false'. Refute it at one input. -/
def fnAdmitOnlyAsksWrong : ChangeSpec := { name := "fnAdmitOnlyAsks", vars := ["example.com/latchwork/latchwork.ErrTxDone"], fn := fun _ => fun
  | [d1, d2, g1] => { results := [.lit (.bool false)], args := [d1, d2], vars := [g1] }
  | _ => none }
def FnAdmitOnlyAsksWrongFalsely : Prop := fnAdmitOnlyAsksRow.holds Tryd.pinned (OpenSpec.ofChange fnAdmitOnlyAsksWrong)

end Rows
end Go.Proofs.Qxb6616663aDoor
