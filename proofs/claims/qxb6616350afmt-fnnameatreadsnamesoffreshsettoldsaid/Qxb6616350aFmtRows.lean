/-
  NARROWER THAN 'FOR EVERY INPUT', by the rows' own cells (each row's printed sentence says how): FnNameAtReadsNamesOfFreshSet: ifaces, laid.
  DERIVED. THE GIVEN ROWS OF THIS SEAT. 1 by the template 'for every input the law returns true; each argument reads behind the call as it read before'; 0 by the template 'total and deterministic' (their statements: Qxb6616350aFmtTotals.lean).
  GIVEN WITH THE SEED: the statements are not yours to turn. If you find one false, say at which input.
  Laid BY PROGRAM, IN A SANDBOX (cutbox-rows.mjs): the forced cells as the released guide's own fill.sh prints them over the translation c2c6ece47293cf19… (all of the seat's roots in one cut). By AI agents, Wed Nov 11 2026. No macro, syntax, notation, axiom, sorry.
-/
import Derived.Test.Qxb6616350aFmtChecked
import GoSem.Claim
import GoSem.ClaimJoined
import GoSem.ClaimMapViews
import Derived.JoinedTies
import Derived.KernelRfl
namespace Go.Proofs.Qxb6616350aFmt
/- THE CELL 'sum', in the pinned program and in every row, IS THE sha256 OF THE DUMP (.gsa) THAT Qxb6616350aFmtProg.lean LOADS. Nothing in Lean hashes anything: it is a label: what it is worth is what the hold of that sum in a sandbox is worth. -/
noncomputable def Tryf.pinned : Pinned := { name := "qxb6616350afmt", sum := "c2c6ece47293cf1960030a46d6eeee5fff4a681706e8cefdc731eed3327a1a8d", checked := Tryf.checked }
namespace Rows
def none {H : Type} : Left H := { results := [], args := [] }

/- WHAT THE LISTED PACKAGE-LEVEL VARIABLES READ AS WHEN THE CALL BEGINS. Each datum BY PROGRAM (the guide's laid-datum.mjs) off the statement by which the dump's own 'gosem.cut.vars' lays the variable. In a bare row this is a premise. The card (Qxb6616350aFmtCards.lean) ties it to the program's text. -/
def laid_example_com_steady_bucket_steady_bucket_ErrCapacity {H : Type} : DataW H := .iface "*errors.errorString" (.ptr (.agg [.lit (.string [115, 116, 101, 97, 100, 121, 98, 117, 99, 107, 101, 116, 58, 32, 105, 110, 118, 97, 108, 105, 100, 32, 99, 97, 112, 97, 99, 105, 116, 121])]))
def laid_example_com_steady_bucket_steady_bucket_ErrEmptyName {H : Type} : DataW H := .iface "*errors.errorString" (.ptr (.agg [.lit (.string [115, 116, 101, 97, 100, 121, 98, 117, 99, 107, 101, 116, 58, 32, 101, 109, 112, 116, 121, 32, 110, 97, 109, 101])]))
def laid_example_com_steady_bucket_steady_bucket_ErrDuplicateName {H : Type} : DataW H := .iface "*errors.errorString" (.ptr (.agg [.lit (.string [115, 116, 101, 97, 100, 121, 98, 117, 99, 107, 101, 116, 58, 32, 100, 117, 112, 108, 105, 99, 97, 116, 101, 32, 110, 97, 109, 101])]))

/-- 'zzlaws_root_b1.FnNameAtReadsNamesOfFreshSet': WHATEVER THE INPUT: true; the input reads as it did. -/
def fnNameAtReadsNamesOfFreshSetSpec : ChangeSpec := { name := "fnNameAtReadsNamesOfFreshSet", vars := ["example.com/steady-bucket/steady-bucket.ErrCapacity", "example.com/steady-bucket/steady-bucket.ErrEmptyName", "example.com/steady-bucket/steady-bucket.ErrDuplicateName"], fn := fun _ => fun
  | [d1, d2, d3, d4, g1, g2, g3] => { results := [.lit (.bool true)], args := [d1, d2, d3, d4], vars := [g1, g2, g3] }
  | _ => none }
def fnNameAtReadsNamesOfFreshSetRow : OpenClaim := { program := "qxb6616350afmt", sum := "c2c6ece47293cf1960030a46d6eeee5fff4a681706e8cefdc731eed3327a1a8d", func := "example.com/steady-bucket/steady-bucket/zzlaws_root_b1.FnNameAtReadsNamesOfFreshSet", spec := "fnNameAtReadsNamesOfFreshSet", stops := ["fmt.errorf"], inPlace := ["fmt.errorf", "sync/atomic.StorePointer", "sync/atomic.StoreUint32", "sync/atomic.LoadPointer", "sync/atomic.LoadUint64"], named := ["example.com/steady-bucket/steady-bucket.ErrCapacity", "example.com/steady-bucket/steady-bucket.ErrEmptyName", "example.com/steady-bucket/steady-bucket.ErrDuplicateName"], ifaces := true, apart := false, laid := [("example.com/steady-bucket/steady-bucket.ErrCapacity", laid_example_com_steady_bucket_steady_bucket_ErrCapacity), ("example.com/steady-bucket/steady-bucket.ErrEmptyName", laid_example_com_steady_bucket_steady_bucket_ErrEmptyName), ("example.com/steady-bucket/steady-bucket.ErrDuplicateName", laid_example_com_steady_bucket_steady_bucket_ErrDuplicateName)] }
/-- NO THEOREM (fmt's text is open here; it may be false): for the released tool's asking of the row's closed facts alone. THE STATEMENT IS 'FnNameAtReadsNamesOfFreshSetToldSaid' (Qxb6616350aFmtCards.lean). -/
def FnNameAtReadsNamesOfFreshSetFormAsk : Prop := fnNameAtReadsNamesOfFreshSetRow.holds Tryf.pinned (OpenSpec.ofChange fnNameAtReadsNamesOfFreshSetSpec)

/-- ITS FALSE NEIGHBOUR: 'it returns false'. Refute it at one input. -/
def fnNameAtReadsNamesOfFreshSetWrong : ChangeSpec := { name := "fnNameAtReadsNamesOfFreshSet", vars := ["example.com/steady-bucket/steady-bucket.ErrCapacity", "example.com/steady-bucket/steady-bucket.ErrEmptyName", "example.com/steady-bucket/steady-bucket.ErrDuplicateName"], fn := fun _ => fun
  | [d1, d2, d3, d4, g1, g2, g3] => { results := [.lit (.bool false)], args := [d1, d2, d3, d4], vars := [g1, g2, g3] }
  | _ => none }
def FnNameAtReadsNamesOfFreshSetWrongFormAsk : Prop := fnNameAtReadsNamesOfFreshSetRow.holds Tryf.pinned (OpenSpec.ofChange fnNameAtReadsNamesOfFreshSetWrong)

end Rows
end Go.Proofs.Qxb6616350aFmt
