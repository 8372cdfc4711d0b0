/-
  DERIVED. GIVEN WITH THE SEED: THE PROGRAM's TIES (one call each: nine closed facts by the kernel) AND EACH ROW's TIE, after the 31st guide's Derived/Test/Toyas{Tie, Card}.lean. No idea stands in it: it is a product of the set-up. Laid BY PROGRAM, IN A SANDBOX (cutbox-door.mjs). By AI agents, Wed Nov 11 2026. No macro, syntax, notation, axiom, sorry.
-/
import Derived.Test.Qxb6616350aFmtRows
import Derived.LaidByTextLater
import Derived.SevenTiedAt
import Derived.LaidSub
import Derived.LaidOnce
namespace Go.Proofs.Qxb6616350aFmt
open Go
set_option maxRecDepth 100000
theorem seatTie1 : Tryf.prog.laidByTextLater [("example.com/steady-bucket/steady-bucket.ErrCapacity", Rows.laid_example_com_steady_bucket_steady_bucket_ErrCapacity), ("example.com/steady-bucket/steady-bucket.ErrEmptyName", Rows.laid_example_com_steady_bucket_steady_bucket_ErrEmptyName), ("example.com/steady-bucket/steady-bucket.ErrDuplicateName", Rows.laid_example_com_steady_bucket_steady_bucket_ErrDuplicateName)] [.sentinel, .sentinel, .sentinel] true :=
  Program.laidByTextLater_by_one 66 8 2 (by kernel_rfl) (by kernel_rfl) (by kernel_rfl) (by kernel_rfl) (by kernel_rfl) (by kernel_rfl) (fun _ _ => by kernel_rfl)
theorem noOwnUnsafe : Tryf.pinned.checked.prog.headLifts.contains "ownunsafe" = false := by kernel_rfl
theorem tie : Tryf.prog.laidByTextLater [("example.com/steady-bucket/steady-bucket.ErrCapacity", Rows.laid_example_com_steady_bucket_steady_bucket_ErrCapacity), ("example.com/steady-bucket/steady-bucket.ErrEmptyName", Rows.laid_example_com_steady_bucket_steady_bucket_ErrEmptyName), ("example.com/steady-bucket/steady-bucket.ErrDuplicateName", Rows.laid_example_com_steady_bucket_steady_bucket_ErrDuplicateName)] [.sentinel, .sentinel, .sentinel] true :=
  Program.laidByTextLater.sub seatTie1 ["example.com/steady-bucket/steady-bucket.ErrCapacity", "example.com/steady-bucket/steady-bucket.ErrEmptyName", "example.com/steady-bucket/steady-bucket.ErrDuplicateName"] (by kernel_rfl) (by kernel_rfl)
theorem fnNameAtReadsNamesOfFreshSet_row_tie : Rows.fnNameAtReadsNamesOfFreshSetRow.laidByTextAt .later Tryf.pinned [.sentinel, .sentinel, .sentinel] true :=
  OpenClaim.laidByTextAt_later rfl rfl tie noOwnUnsafe
end Go.Proofs.Qxb6616350aFmt
