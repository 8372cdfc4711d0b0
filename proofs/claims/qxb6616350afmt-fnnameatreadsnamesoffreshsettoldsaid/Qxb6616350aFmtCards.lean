/-
  DERIVED. GIVEN WITH THE SEED: THE CARDS: each row of Qxb6616350aFmtRows.lean that lists a variable, with what it lists TIED to the program's text (the seventh form; the later family's looks); each row that meets fmt, with fmt's text TOLD by the authors' own Lean function (tested against real Go, not proved from fmt's source: count such statements apart). THE CARD IS WHAT COUNTS. Prove the row's statement (the work); the ties are given (Qxb6616350aFmtTie.lean); close each card by the builder's one call (the guide's Derived/Test/ToyasCard.lean, 'card_holds'). Laid BY PROGRAM, IN A SANDBOX (cutbox-door.mjs). By AI agents, Wed Nov 11 2026. No macro, syntax, notation, axiom, sorry.
-/
import Derived.Test.Qxb6616350aFmtRows
import GoSem.ClaimSeven
namespace Go.Proofs.Qxb6616350aFmt
namespace Rows

/-- THE TOLD AND TIED CARD OF 'zzlaws_root_b1.FnNameAtReadsNamesOfFreshSet'. -/
def fnNameAtReadsNamesOfFreshSetCard : Claim7 := { stood := { row := fnNameAtReadsNamesOfFreshSetRow, standIns := [], harness := (true, "9f7edd1e3f40b17e38e5dbb50f21b0645b37d841a7d3573b415087d736a3874c"), looks := false }, told := true, laidByText := true, laidKinds := [.sentinel, .sentinel, .sentinel], laidTests := true, laidLooks := .later, goes := false }
def FnNameAtReadsNamesOfFreshSetToldSaid : Prop := Claim7.holds Tryf.pinned (.plain (OpenSpec.ofChange fnNameAtReadsNamesOfFreshSetSpec)) fnNameAtReadsNamesOfFreshSetCard
/-- ITS FALSE NEIGHBOUR. Refute it at one input. -/
def FnNameAtReadsNamesOfFreshSetToldWrongFalsely : Prop := Claim7.holds Tryf.pinned (.plain (OpenSpec.ofChange fnNameAtReadsNamesOfFreshSetWrong)) fnNameAtReadsNamesOfFreshSetCard
end Rows
end Go.Proofs.Qxb6616350aFmt
