/-
  THE WALKS of nassec.usedUp and of Direction.String, for every F.
-/
import Derived.Test.Qxb6616321aFmtFacts
import Derived.Test.Qxb6616321aFmtCards
import Derived.WalkKit
import Derived.WalkSpells
import Derived.Below
namespace Go.Proofs.Qxb6616321aFmt
open Go.RowKit Go.Extern.Stop Go.Stop Go.Extern

theorem string_any (d : Int) (w : World) : Calls Tryf.prog 13 #[.int .u8 d] w fun e w' => ∃ s, e = .returned (.string s) ∧ w = w' := by
  by_cases h : d = 0
  · subst h
    go_enter Tryf.func13, Tryf.ntmps13
    go_wp2
    go_ret
    exact ⟨_, rfl, rfl⟩
  · have hd : (d == 0) = false := by simpa using h
    go_enter Tryf.func13, Tryf.ntmps13
    go_wp2
    go_ret
    exact ⟨_, rfl, rfl⟩

set_option maxHeartbeats 1600000 in
theorem usedUp (F : Interp) (d : Int) (w : World) (hF : F.answers w.tape) :
    Calls Tryf.prog 11 #[.int .u8 d] w fun e w' => ∃ p, e = .returned (.iface 52 (.pointer p)) ∧ Below w.heap.size w w' := by
  have hF' := answers_open hF
  go_enter Tryf.func11, Tryf.ntmps11
  go_wp2
  apply rows_call Tryf.nextTurns
  case hr =>
    go_simp
    exact ⟨⟨rfl, rfl, rfl⟩, rfl⟩
  case hi => exact Tryf.invokeString39 _ _
  case hc =>
    refine (string_any d _).mono ?_
    rintro e w3 ⟨s, rfl, rfl⟩
    apply rows_value Tryf.nextReturned
    case hr =>
      go_simp
      exact ⟨rfl, rfl⟩
    case h =>
      go_wp2
      go_ret
      exact ⟨_, rfl, (((Below.refl w.heap.size w).alloc (Nat.le_refl _) _).alloc (by simp) _).drew⟩
end Go.Proofs.Qxb6616321aFmt
