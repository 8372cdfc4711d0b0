/-
  No cell of these rows narrows 'for every input' (looked for: loops, veiled, ifaces, maps, wideKeys, modest, calm, conditions, laid).
  DERIVED. THE GIVEN ROWS OF THIS SEAT. 1 by the template 'for every input the law returns true; each argument reads behind the call as it read before'; 0 by the template 'total and deterministic' (their statements: Qxb6618293aTotals.lean).
  GIVEN WITH THE SEED: the statements are not yours to turn. If you find one false, say at which input.
  Laid BY PROGRAM, IN A SANDBOX (cutbox-rows.mjs): the forced cells as the released guide's own fill.sh prints them over the translation f6d44e81901acc07… (all of the seat's roots in one cut). By AI agents, Wed Nov 11 2026. No macro, syntax, notation, axiom, sorry.
-/
import Derived.Test.Qxb6618293aChecked
import GoSem.Claim
import GoSem.ClaimJoined
import GoSem.ClaimMapViews
import Derived.JoinedTies
import Derived.KernelRfl
namespace Go.Proofs.Qxb6618293a
/- THE CELL 'sum', in the pinned program and in every row, IS THE sha256 OF THE DUMP (.gsa) THAT Qxb6618293aProg.lean LOADS. Nothing in Lean hashes anything: it is a label: what it is worth is what the hold of that sum in a sandbox is worth. -/
noncomputable def Try.pinned : Pinned := { name := "qxb6618293a", sum := "f6d44e81901acc07ff9af94d85717afbc0118f8cd3425102f8fb514e307f1475", checked := Try.checked }
namespace Rows
def none {H : Type} : Left H := { results := [], args := [] }

/-- 'zzlaws_relay_b1.FnBitWriterWriteAppendsLowBitsAtAnyCut': WHATEVER THE INPUT: true; the input reads as it did. -/
def fnBitWriterWriteAppendsLowBitsAtAnyCutSpec : ChangeSpec := { name := "fnBitWriterWriteAppendsLowBitsAtAnyCut", fn := fun _ => fun
  | [d1, d2, d3, d4, d5] => { results := [.lit (.bool true)], args := [d1, d2, d3, d4, d5] }
  | _ => none }
def fnBitWriterWriteAppendsLowBitsAtAnyCutRow : OpenClaim := { program := "qxb6618293a", sum := "f6d44e81901acc07ff9af94d85717afbc0118f8cd3425102f8fb514e307f1475", func := "example.com/assent/assent/zzlaws_relay_b1.FnBitWriterWriteAppendsLowBitsAtAnyCut", spec := "fnBitWriterWriteAppendsLowBitsAtAnyCut", apart := false }
def FnBitWriterWriteAppendsLowBitsAtAnyCutSaid : Prop := fnBitWriterWriteAppendsLowBitsAtAnyCutRow.holds Try.pinned (OpenSpec.ofChange fnBitWriterWriteAppendsLowBitsAtAnyCutSpec)

/-- ITS FALSE NEIGHBOUR: 'it returns false'. Refute it at one input. -/
def fnBitWriterWriteAppendsLowBitsAtAnyCutWrong : ChangeSpec := { name := "fnBitWriterWriteAppendsLowBitsAtAnyCut", fn := fun _ => fun
  | [d1, d2, d3, d4, d5] => { results := [.lit (.bool false)], args := [d1, d2, d3, d4, d5] }
  | _ => none }
def FnBitWriterWriteAppendsLowBitsAtAnyCutWrongFalsely : Prop := fnBitWriterWriteAppendsLowBitsAtAnyCutRow.holds Try.pinned (OpenSpec.ofChange fnBitWriterWriteAppendsLowBitsAtAnyCutWrong)

end Rows
end Go.Proofs.Qxb6618293a
