/-
  No cell of these rows narrows 'for every input' (looked for: loops, veiled, ifaces, maps, wideKeys, modest, calm, conditions, laid).
  DERIVED. THE GIVEN ROWS OF THIS SEAT. 2 by the template 'for every input the law returns true; each argument reads behind the call as it read before'; 0 by the template 'total and deterministic' (their statements: Qxb6616321aFmtTotals.lean).
  GIVEN WITH THE SEED: the statements are not yours to turn. If you find one false, say at which input.
  Laid BY PROGRAM, IN A SANDBOX (cutbox-rows.mjs): the forced cells as the released guide's own fill.sh prints them over the translation 5550dd8c401ec619… (all of the seat's roots in one cut). By AI agents, Wed Nov 11 2026. No macro, syntax, notation, axiom, sorry.
-/
import Derived.Test.Qxb6616321aFmtChecked
import GoSem.Claim
import GoSem.ClaimJoined
import GoSem.ClaimMapViews
import Derived.JoinedTies
import Derived.KernelRfl
namespace Go.Proofs.Qxb6616321aFmt
/- THE CELL 'sum', in the pinned program and in every row, IS THE sha256 OF THE DUMP (.gsa) THAT Qxb6616321aFmtProg.lean LOADS. Nothing in Lean hashes anything: it is a label: what it is worth is what the hold of that sum in a sandbox is worth. -/
noncomputable def Tryf.pinned : Pinned := { name := "qxb6616321afmt", sum := "5550dd8c401ec61970afa39c6178dc8c9d8d5e6d26519584e73d9e9555bf14f2", checked := Tryf.checked }
namespace Rows
def none {H : Type} : Left H := { results := [], args := [] }

/-- 'zzlaws_nassec_b1.FnTakeScriptCounts': WHATEVER THE INPUT: true; the input reads as it did. -/
def fnTakeScriptCountsSpec : ChangeSpec := { name := "fnTakeScriptCounts", fn := fun _ => fun
  | [d1, d2, d3] => { results := [.lit (.bool true)], args := [d1, d2, d3] }
  | _ => none }
def fnTakeScriptCountsRow : OpenClaim := { program := "qxb6616321afmt", sum := "5550dd8c401ec61970afa39c6178dc8c9d8d5e6d26519584e73d9e9555bf14f2", func := "example.com/emmcheck/emmcheck/zzlaws_nassec_b1.FnTakeScriptCounts", spec := "fnTakeScriptCounts", stops := ["fmt.Sprintf, its operands' methods called", "fmt.errorf, its operands' methods called"], inPlace := ["fmt.Sprintf", "fmt.errorf"], unfollowed := true, recurses := true, apart := false }
/-- NO THEOREM (fmt's text is open here; it may be false): for the released tool's asking of the row's closed facts alone. THE STATEMENT IS 'FnTakeScriptCountsToldSaid' (Qxb6616321aFmtCards.lean). -/
def FnTakeScriptCountsFormAsk : Prop := fnTakeScriptCountsRow.holds Tryf.pinned (OpenSpec.ofChange fnTakeScriptCountsSpec)

/-- ITS FALSE NEIGHBOUR: 'it returns false'. Refute it at one input. -/
def fnTakeScriptCountsWrong : ChangeSpec := { name := "fnTakeScriptCounts", fn := fun _ => fun
  | [d1, d2, d3] => { results := [.lit (.bool false)], args := [d1, d2, d3] }
  | _ => none }
def FnTakeScriptCountsWrongFormAsk : Prop := fnTakeScriptCountsRow.holds Tryf.pinned (OpenSpec.ofChange fnTakeScriptCountsWrong)

/-- 'zzlaws_nassec_b1.FnTakeEstimateRoundTrip': WHATEVER THE INPUT: true; the input reads as it did. -/
def fnTakeEstimateRoundTripSpec : ChangeSpec := { name := "fnTakeEstimateRoundTrip", fn := fun _ => fun
  | [d1, d2, d3, d4] => { results := [.lit (.bool true)], args := [d1, d2, d3, d4] }
  | _ => none }
def fnTakeEstimateRoundTripRow : OpenClaim := { program := "qxb6616321afmt", sum := "5550dd8c401ec61970afa39c6178dc8c9d8d5e6d26519584e73d9e9555bf14f2", func := "example.com/emmcheck/emmcheck/zzlaws_nassec_b1.FnTakeEstimateRoundTrip", spec := "fnTakeEstimateRoundTrip", stops := ["fmt.Sprintf, its operands' methods called", "fmt.errorf, its operands' methods called"], inPlace := ["fmt.Sprintf", "fmt.errorf"], unfollowed := true, recurses := true, apart := false }
/-- NO THEOREM (fmt's text is open here; it may be false): for the released tool's asking of the row's closed facts alone. THE STATEMENT IS 'FnTakeEstimateRoundTripToldSaid' (Qxb6616321aFmtCards.lean). -/
def FnTakeEstimateRoundTripFormAsk : Prop := fnTakeEstimateRoundTripRow.holds Tryf.pinned (OpenSpec.ofChange fnTakeEstimateRoundTripSpec)

/-- ITS FALSE NEIGHBOUR: 'it returns false'. Refute it at one input. -/
def fnTakeEstimateRoundTripWrong : ChangeSpec := { name := "fnTakeEstimateRoundTrip", fn := fun _ => fun
  | [d1, d2, d3, d4] => { results := [.lit (.bool false)], args := [d1, d2, d3, d4] }
  | _ => none }
def FnTakeEstimateRoundTripWrongFormAsk : Prop := fnTakeEstimateRoundTripRow.holds Tryf.pinned (OpenSpec.ofChange fnTakeEstimateRoundTripWrong)

end Rows
end Go.Proofs.Qxb6616321aFmt
