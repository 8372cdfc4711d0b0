/-
  THE WALKS of (*Context).count, (*Context).take, ZZtake.
-/
import Derived.Test.Qxb6616321aFmtUsed
namespace Go.Proofs.Qxb6616321aFmt
open Go.RowKit Go.Extern.Stop Go.Stop Go.Extern

theorem count0 (cb : Nat) (w : World) : Calls Tryf.prog 10 #[.pointer (some ⟨cb, 0, none⟩), .int .u8 0] w fun e w' => e = .returned (.pointer (some ⟨cb, 0, none⟩)) ∧ w = w' := by
  go_enter Tryf.func10, Tryf.ntmps10
  go_wp2
  go_ret
  exact ⟨rfl, rfl⟩
theorem count1 (cb : Nat) (w : World) : Calls Tryf.prog 10 #[.pointer (some ⟨cb, 0, none⟩), .int .u8 1] w fun e w' => e = .returned (.pointer (some ⟨cb, 1, none⟩)) ∧ w = w' := by
  go_enter Tryf.func10, Tryf.ntmps10
  go_wp2
  go_ret
  exact ⟨rfl, rfl⟩
theorem count_d (cb d : Nat) (hd : d = 0 ∨ d = 1) (w : World) : Calls Tryf.prog 10 #[.pointer (some ⟨cb, 0, none⟩), .int .u8 d] w fun e w' => e = .returned (.pointer (some ⟨cb, d, none⟩)) ∧ w = w' := by
  rcases hd with rfl | rfl
  · exact count0 cb w
  · exact count1 cb w

set_option maxHeartbeats 1000000 in
theorem take_ok (cb d : Nat) (hd : d = 0 ∨ d = 1) (u : Int) (w : World) (c : w.cell? ⟨cb, d, none⟩ = some (.int .u32 u)) (f : w.frozen? ⟨cb, d, none⟩ = false) (h0 : 0 ≤ u) (h1 : u ≤ 16777215) :
    Calls Tryf.prog 8 #[.pointer (some ⟨cb, 0, none⟩), .int .u8 d] w fun e w' => e = .returned (.tuple #[.int .u32 u, .nilIface]) ∧ w' = w.setCell ⟨cb, d, none⟩ (.int .u32 (u + 1)) := by
  go_enter Tryf.func8, Tryf.ntmps8
  go_wp2_with fail
  refine (count_d cb d hd _).mono ?_
  rintro e w1 ⟨rfl, rfl⟩
  go_wp2
  go_ret2
  exact ⟨rfl, rfl⟩

set_option maxHeartbeats 1000000 in
theorem take_used (F : Interp) (cb d : Nat) (hd : d = 0 ∨ d = 1) (u : Int) (w : World) (hF : F.answers w.tape) (c : w.cell? ⟨cb, d, none⟩ = some (.int .u32 u)) (h1 : 16777215 < u) :
    Calls Tryf.prog 8 #[.pointer (some ⟨cb, 0, none⟩), .int .u8 d] w fun e w' => ∃ p, e = .returned (.tuple #[.int .u32 0, .iface 52 (.pointer p)]) ∧ Below w.heap.size w w' := by
  go_enter Tryf.func8, Tryf.ntmps8
  go_wp2_with fail
  refine (count_d cb d hd _).mono ?_
  rintro e w1 ⟨rfl, rfl⟩
  go_wp2_with fail
  refine (usedUp F d _ hF).mono ?_
  rintro e w1 ⟨p, rfl, hb⟩
  go_wp2
  go_ret2
  exact ⟨p, rfl, hb⟩

theorem zztake_ok (cb d : Nat) (hd : d = 0 ∨ d = 1) (u : Int) (w : World) (c : w.cell? ⟨cb, d, none⟩ = some (.int .u32 u)) (f : w.frozen? ⟨cb, d, none⟩ = false) (h0 : 0 ≤ u) (h1 : u ≤ 16777215) :
    Calls Tryf.prog 6 #[.pointer (some ⟨cb, 0, none⟩), .int .u8 d] w fun e w' => e = .returned (.tuple #[.int .u32 u, .nilIface]) ∧ w' = w.setCell ⟨cb, d, none⟩ (.int .u32 (u + 1)) := by
  go_enter Tryf.func6, Tryf.ntmps6
  go_wp2_with fail
  refine (take_ok cb d hd u _ c f h0 h1).mono ?_
  rintro e w1 ⟨rfl, rfl⟩
  go_wp2
  go_ret2
  exact ⟨rfl, rfl⟩
theorem zztake_used (F : Interp) (cb d : Nat) (hd : d = 0 ∨ d = 1) (u : Int) (w : World) (hF : F.answers w.tape) (c : w.cell? ⟨cb, d, none⟩ = some (.int .u32 u)) (h1 : 16777215 < u) :
    Calls Tryf.prog 6 #[.pointer (some ⟨cb, 0, none⟩), .int .u8 d] w fun e w' => ∃ p, e = .returned (.tuple #[.int .u32 0, .iface 52 (.pointer p)]) ∧ Below w.heap.size w w' := by
  go_enter Tryf.func6, Tryf.ntmps6
  go_wp2_with fail
  refine (take_used F cb d hd u _ hF c h1).mono ?_
  rintro e w1 ⟨p, rfl, hb⟩
  go_wp2
  go_ret2
  exact ⟨p, rfl, hb⟩
end Go.Proofs.Qxb6616321aFmt
