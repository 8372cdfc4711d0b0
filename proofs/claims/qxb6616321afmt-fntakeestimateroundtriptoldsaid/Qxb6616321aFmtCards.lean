/-
  DERIVED. GIVEN WITH THE SEED: THE CARDS: each row of Qxb6616321aFmtRows.lean that lists a variable, with what it lists TIED to the program's text (the seventh form; the later family's looks); each row that meets fmt, with fmt's text TOLD by the authors' own Lean function (tested against real Go, not proved from fmt's source: count such statements apart). THE CARD IS WHAT COUNTS. Prove the row's statement (the work); the ties are given (Qxb6616321aFmtTie.lean); close each card by the builder's one call (the guide's Derived/Test/ToyasCard.lean, 'card_holds'). Laid BY PROGRAM, IN A SANDBOX (cutbox-door.mjs). By AI agents, Wed Nov 11 2026. No macro, syntax, notation, axiom, sorry.
-/
import Derived.Test.Qxb6616321aFmtRows
import GoSem.ClaimSeven
namespace Go.Proofs.Qxb6616321aFmt
namespace Rows

/-- THE TOLD CARD OF 'zzlaws_nassec_b1.FnTakeScriptCounts'. -/
def fnTakeScriptCountsCard : Claim7 := { stood := { row := fnTakeScriptCountsRow, standIns := [], harness := (true, "0ae4f269c1478c7faf5ea5634ee6a2d5872870d968a2d0a0b4d80176b710f8dc"), looks := false }, told := true, goes := false }
def FnTakeScriptCountsToldSaid : Prop := Claim7.holds Tryf.pinned (.plain (OpenSpec.ofChange fnTakeScriptCountsSpec)) fnTakeScriptCountsCard
/-- ITS FALSE NEIGHBOUR. Refute it at one input. -/
def FnTakeScriptCountsToldWrongFalsely : Prop := Claim7.holds Tryf.pinned (.plain (OpenSpec.ofChange fnTakeScriptCountsWrong)) fnTakeScriptCountsCard

/-- THE TOLD CARD OF 'zzlaws_nassec_b1.FnTakeEstimateRoundTrip'. -/
def fnTakeEstimateRoundTripCard : Claim7 := { stood := { row := fnTakeEstimateRoundTripRow, standIns := [], harness := (true, "0ae4f269c1478c7faf5ea5634ee6a2d5872870d968a2d0a0b4d80176b710f8dc"), looks := false }, told := true, goes := false }
def FnTakeEstimateRoundTripToldSaid : Prop := Claim7.holds Tryf.pinned (.plain (OpenSpec.ofChange fnTakeEstimateRoundTripSpec)) fnTakeEstimateRoundTripCard
/-- ITS FALSE NEIGHBOUR. Refute it at one input. -/
def FnTakeEstimateRoundTripToldWrongFalsely : Prop := Claim7.holds Tryf.pinned (.plain (OpenSpec.ofChange fnTakeEstimateRoundTripWrong)) fnTakeEstimateRoundTripCard
end Rows
end Go.Proofs.Qxb6616321aFmt
