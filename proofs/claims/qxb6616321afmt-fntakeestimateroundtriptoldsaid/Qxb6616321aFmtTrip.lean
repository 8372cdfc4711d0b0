/-
  THE WALK of the law FnTakeEstimateRoundTrip.
-/
import Derived.Test.Qxb6616321aFmtEst
import Derived.Test.Qxb6616321aFmtScriptA
namespace Go.Proofs.Qxb6616321aFmt
open Go.RowKit Go.Extern.Stop Go.Stop Go.Extern
set_option linter.unusedVariables false

theorem early_dir (up down recv d : Int) (w : World) (h : 1 < d) :
    Calls Tryf.prog 4 #[.int .u32 up, .int .u32 down, .int .u8 d, .int .u32 recv] w fun e w' => e = .returned (.bool true) ∧ Below w.heap.size w w' := by
  go_enter Tryf.func4, Tryf.ntmps4
  go_wp2
  go_ret
  exact ⟨rfl, Below.refl _ _⟩
theorem early_above0 (up down recv : Int) (w : World) (h : up < recv) :
    Calls Tryf.prog 4 #[.int .u32 up, .int .u32 down, .int .u8 0, .int .u32 recv] w fun e w' => e = .returned (.bool true) ∧ Below w.heap.size w w' := by
  go_enter Tryf.func4, Tryf.ntmps4
  go_wp2
  go_ret
  exact ⟨rfl, Below.refl _ _⟩
theorem early_above1 (up down recv : Int) (w : World) (h : down < recv) :
    Calls Tryf.prog 4 #[.int .u32 up, .int .u32 down, .int .u8 1, .int .u32 recv] w fun e w' => e = .returned (.bool true) ∧ Below w.heap.size w w' := by
  go_enter Tryf.func4, Tryf.ntmps4
  go_wp2
  go_ret
  exact ⟨rfl, Below.refl _ _⟩
theorem early_far0 (up down recv : Int) (w : World) (hu1 : up ≤ 4294967295) (hr0 : 0 ≤ recv) (h0 : recv ≤ up) (h : 255 < up - recv) :
    Calls Tryf.prog 4 #[.int .u32 up, .int .u32 down, .int .u8 0, .int .u32 recv] w fun e w' => e = .returned (.bool true) ∧ Below w.heap.size w w' := by
  go_enter Tryf.func4, Tryf.ntmps4
  go_wp2
  go_ret
  exact ⟨rfl, Below.refl _ _⟩
theorem early_far1 (up down recv : Int) (w : World) (hu1 : down ≤ 4294967295) (hr0 : 0 ≤ recv) (h0 : recv ≤ down) (h : 255 < down - recv) :
    Calls Tryf.prog 4 #[.int .u32 up, .int .u32 down, .int .u8 1, .int .u32 recv] w fun e w' => e = .returned (.bool true) ∧ Below w.heap.size w w' := by
  go_enter Tryf.func4, Tryf.ntmps4
  go_wp2
  go_ret
  exact ⟨rfl, Below.refl _ _⟩

set_option maxRecDepth 100000 in
set_option maxHeartbeats 1000000 in
theorem law0_ok (F : Interp) (up down recv : Int) (w : World) (hF : F.answers w.tape) (hu0 : 0 ≤ up) (hu1 : up ≤ 4294967295) (hd0 : 0 ≤ down) (hd1 : down ≤ 4294967295) (hr0 : 0 ≤ recv) (hrs : recv ≤ up) (hrd : up - recv ≤ 255) (h : up ≤ 16777215) :
    Calls Tryf.prog 4 #[.int .u32 up, .int .u32 down, .int .u8 0, .int .u32 recv] w fun e w' => e = .returned (.bool true) ∧ Below w.heap.size w w' := by
  go_enter Tryf.func4, Tryf.ntmps4
  go_wp2_with fail
  have hctx : Ctx _ w.heap.size up down := ⟨_, heap_alloc_new w (.cells #[.int .u32 up, .int .u32 down, .nilFunc, .nilFunc, .int .u8 0, .int .u8 0, .int .u8 0, .int .u8 0, .int .u8 0, .int .u8 0, .int .u8 0, .int .u8 0, .int .u8 0, .int .u8 0, .int .u8 0, .int .u8 0, .int .u8 0, .int .u8 0, .int .u8 0, .int .u8 0, .int .u8 0, .int .u8 0, .int .u8 0, .int .u8 0, .int .u8 0, .int .u8 0, .int .u8 0, .int .u8 0, .int .u8 0, .int .u8 0, .int .u8 0, .int .u8 0, .int .u8 0, .int .u8 0, .int .u8 0, .int .u8 0] 32), rfl, rfl⟩
  have hbel := (Below.refl w.heap.size w).alloc (Nat.le_refl _) (.cells #[.int .u32 up, .int .u32 down, .nilFunc, .nilFunc, .int .u8 0, .int .u8 0, .int .u8 0, .int .u8 0, .int .u8 0, .int .u8 0, .int .u8 0, .int .u8 0, .int .u8 0, .int .u8 0, .int .u8 0, .int .u8 0, .int .u8 0, .int .u8 0, .int .u8 0, .int .u8 0, .int .u8 0, .int .u8 0, .int .u8 0, .int .u8 0, .int .u8 0, .int .u8 0, .int .u8 0, .int .u8 0, .int .u8 0, .int .u8 0, .int .u8 0, .int .u8 0, .int .u8 0, .int .u8 0, .int .u8 0, .int .u8 0] 32)
  generalize w.alloc _ = W0 at *
  have c0 := hctx.cells
  refine (take0_ok w.heap.size up _ c0.1 c0.2.2.1 (by omega) (by omega)).mono ?_
  rintro e w1 ⟨rfl, rfl⟩
  have hctx1 := hctx.set0 (x := up + 1)
  have hbel1 := hbel.setCell (p := ⟨w.heap.size, 0, none⟩) (Nat.le_refl _) (.int .u32 (up + 1))
  clear hctx hbel c0
  generalize World.setCell _ ⟨w.heap.size, 0, none⟩ (.int .u32 (up + 1)) = W1 at *
  obtain ⟨c0, c1, f0, f1⟩ := hctx1.cells
  go_wp2_with fail
  refine (zzest_ok recv up 0 _ hr0 hrs hrd h).mono ?_
  rintro e w1 ⟨rfl, rfl⟩
  go_wp2
  go_ret
  exact ⟨rfl, hbel1⟩

set_option maxRecDepth 100000 in
set_option maxHeartbeats 1000000 in
theorem law0_used (F : Interp) (up down recv : Int) (w : World) (hF : F.answers w.tape) (hu0 : 0 ≤ up) (hu1 : up ≤ 4294967295) (hd0 : 0 ≤ down) (hd1 : down ≤ 4294967295) (hr0 : 0 ≤ recv) (hrs : recv ≤ up) (hrd : up - recv ≤ 255) (h : 16777215 < up) :
    Calls Tryf.prog 4 #[.int .u32 up, .int .u32 down, .int .u8 0, .int .u32 recv] w fun e w' => e = .returned (.bool true) ∧ Below w.heap.size w w' := by
  go_enter Tryf.func4, Tryf.ntmps4
  go_wp2_with fail
  have hctx : Ctx _ w.heap.size up down := ⟨_, heap_alloc_new w (.cells #[.int .u32 up, .int .u32 down, .nilFunc, .nilFunc, .int .u8 0, .int .u8 0, .int .u8 0, .int .u8 0, .int .u8 0, .int .u8 0, .int .u8 0, .int .u8 0, .int .u8 0, .int .u8 0, .int .u8 0, .int .u8 0, .int .u8 0, .int .u8 0, .int .u8 0, .int .u8 0, .int .u8 0, .int .u8 0, .int .u8 0, .int .u8 0, .int .u8 0, .int .u8 0, .int .u8 0, .int .u8 0, .int .u8 0, .int .u8 0, .int .u8 0, .int .u8 0, .int .u8 0, .int .u8 0, .int .u8 0, .int .u8 0] 32), rfl, rfl⟩
  have hbel := (Below.refl w.heap.size w).alloc (Nat.le_refl _) (.cells #[.int .u32 up, .int .u32 down, .nilFunc, .nilFunc, .int .u8 0, .int .u8 0, .int .u8 0, .int .u8 0, .int .u8 0, .int .u8 0, .int .u8 0, .int .u8 0, .int .u8 0, .int .u8 0, .int .u8 0, .int .u8 0, .int .u8 0, .int .u8 0, .int .u8 0, .int .u8 0, .int .u8 0, .int .u8 0, .int .u8 0, .int .u8 0, .int .u8 0, .int .u8 0, .int .u8 0, .int .u8 0, .int .u8 0, .int .u8 0, .int .u8 0, .int .u8 0, .int .u8 0, .int .u8 0, .int .u8 0, .int .u8 0] 32)
  generalize w.alloc _ = W0 at *
  have c0 := hctx.cells
  refine (take0_used F w.heap.size up _ (by rw [hbel.tape]; exact hF) c0.1 h).mono ?_
  rintro e W1 ⟨p, rfl, hb1⟩
  have hctx1 := hctx.below hb1 hctx.lt
  have hbel1 := hbel.trans (hb1.mono hbel.size)
  clear hctx hbel c0 hb1
  obtain ⟨c0, c1, f0, f1⟩ := hctx1.cells
  go_wp2_with fail
  refine (zzest_used F recv up 0 _ (by rw [hbel1.tape]; exact hF) hr0 hrs hrd h (by omega)).mono ?_
  rintro e W2 ⟨p2, rfl, hb2⟩
  have hctx2 := hctx1.below hb2 hctx1.lt
  have hbel2 := hbel1.trans (hb2.mono hbel1.size)
  clear hctx1 hbel1 c0 c1 f0 f1 hb2
  obtain ⟨c0, c1, f0, f1⟩ := hctx2.cells
  go_wp2
  go_ret
  exact ⟨rfl, hbel2⟩

set_option maxRecDepth 100000 in
set_option maxHeartbeats 1000000 in
theorem law1_ok (F : Interp) (up down recv : Int) (w : World) (hF : F.answers w.tape) (hu0 : 0 ≤ up) (hu1 : up ≤ 4294967295) (hd0 : 0 ≤ down) (hd1 : down ≤ 4294967295) (hr0 : 0 ≤ recv) (hrs : recv ≤ down) (hrd : down - recv ≤ 255) (h : down ≤ 16777215) :
    Calls Tryf.prog 4 #[.int .u32 up, .int .u32 down, .int .u8 1, .int .u32 recv] w fun e w' => e = .returned (.bool true) ∧ Below w.heap.size w w' := by
  go_enter Tryf.func4, Tryf.ntmps4
  go_wp2_with fail
  have hctx : Ctx _ w.heap.size up down := ⟨_, heap_alloc_new w (.cells #[.int .u32 up, .int .u32 down, .nilFunc, .nilFunc, .int .u8 0, .int .u8 0, .int .u8 0, .int .u8 0, .int .u8 0, .int .u8 0, .int .u8 0, .int .u8 0, .int .u8 0, .int .u8 0, .int .u8 0, .int .u8 0, .int .u8 0, .int .u8 0, .int .u8 0, .int .u8 0, .int .u8 0, .int .u8 0, .int .u8 0, .int .u8 0, .int .u8 0, .int .u8 0, .int .u8 0, .int .u8 0, .int .u8 0, .int .u8 0, .int .u8 0, .int .u8 0, .int .u8 0, .int .u8 0, .int .u8 0, .int .u8 0] 32), rfl, rfl⟩
  have hbel := (Below.refl w.heap.size w).alloc (Nat.le_refl _) (.cells #[.int .u32 up, .int .u32 down, .nilFunc, .nilFunc, .int .u8 0, .int .u8 0, .int .u8 0, .int .u8 0, .int .u8 0, .int .u8 0, .int .u8 0, .int .u8 0, .int .u8 0, .int .u8 0, .int .u8 0, .int .u8 0, .int .u8 0, .int .u8 0, .int .u8 0, .int .u8 0, .int .u8 0, .int .u8 0, .int .u8 0, .int .u8 0, .int .u8 0, .int .u8 0, .int .u8 0, .int .u8 0, .int .u8 0, .int .u8 0, .int .u8 0, .int .u8 0, .int .u8 0, .int .u8 0, .int .u8 0, .int .u8 0] 32)
  generalize w.alloc _ = W0 at *
  have c0 := hctx.cells
  refine (take1_ok w.heap.size down _ c0.2.1 c0.2.2.2 (by omega) (by omega)).mono ?_
  rintro e w1 ⟨rfl, rfl⟩
  have hctx1 := hctx.set1 (x := down + 1)
  have hbel1 := hbel.setCell (p := ⟨w.heap.size, 1, none⟩) (Nat.le_refl _) (.int .u32 (down + 1))
  clear hctx hbel c0
  generalize World.setCell _ ⟨w.heap.size, 1, none⟩ (.int .u32 (down + 1)) = W1 at *
  obtain ⟨c0, c1, f0, f1⟩ := hctx1.cells
  go_wp2_with fail
  refine (zzest_ok recv down 1 _ hr0 hrs hrd h).mono ?_
  rintro e w1 ⟨rfl, rfl⟩
  go_wp2
  go_ret
  exact ⟨rfl, hbel1⟩

set_option maxRecDepth 100000 in
set_option maxHeartbeats 1000000 in
theorem law1_used (F : Interp) (up down recv : Int) (w : World) (hF : F.answers w.tape) (hu0 : 0 ≤ up) (hu1 : up ≤ 4294967295) (hd0 : 0 ≤ down) (hd1 : down ≤ 4294967295) (hr0 : 0 ≤ recv) (hrs : recv ≤ down) (hrd : down - recv ≤ 255) (h : 16777215 < down) :
    Calls Tryf.prog 4 #[.int .u32 up, .int .u32 down, .int .u8 1, .int .u32 recv] w fun e w' => e = .returned (.bool true) ∧ Below w.heap.size w w' := by
  go_enter Tryf.func4, Tryf.ntmps4
  go_wp2_with fail
  have hctx : Ctx _ w.heap.size up down := ⟨_, heap_alloc_new w (.cells #[.int .u32 up, .int .u32 down, .nilFunc, .nilFunc, .int .u8 0, .int .u8 0, .int .u8 0, .int .u8 0, .int .u8 0, .int .u8 0, .int .u8 0, .int .u8 0, .int .u8 0, .int .u8 0, .int .u8 0, .int .u8 0, .int .u8 0, .int .u8 0, .int .u8 0, .int .u8 0, .int .u8 0, .int .u8 0, .int .u8 0, .int .u8 0, .int .u8 0, .int .u8 0, .int .u8 0, .int .u8 0, .int .u8 0, .int .u8 0, .int .u8 0, .int .u8 0, .int .u8 0, .int .u8 0, .int .u8 0, .int .u8 0] 32), rfl, rfl⟩
  have hbel := (Below.refl w.heap.size w).alloc (Nat.le_refl _) (.cells #[.int .u32 up, .int .u32 down, .nilFunc, .nilFunc, .int .u8 0, .int .u8 0, .int .u8 0, .int .u8 0, .int .u8 0, .int .u8 0, .int .u8 0, .int .u8 0, .int .u8 0, .int .u8 0, .int .u8 0, .int .u8 0, .int .u8 0, .int .u8 0, .int .u8 0, .int .u8 0, .int .u8 0, .int .u8 0, .int .u8 0, .int .u8 0, .int .u8 0, .int .u8 0, .int .u8 0, .int .u8 0, .int .u8 0, .int .u8 0, .int .u8 0, .int .u8 0, .int .u8 0, .int .u8 0, .int .u8 0, .int .u8 0] 32)
  generalize w.alloc _ = W0 at *
  have c0 := hctx.cells
  refine (take1_used F w.heap.size down _ (by rw [hbel.tape]; exact hF) c0.2.1 h).mono ?_
  rintro e W1 ⟨p, rfl, hb1⟩
  have hctx1 := hctx.below hb1 hctx.lt
  have hbel1 := hbel.trans (hb1.mono hbel.size)
  clear hctx hbel c0 hb1
  obtain ⟨c0, c1, f0, f1⟩ := hctx1.cells
  go_wp2_with fail
  refine (zzest_used F recv down 1 _ (by rw [hbel1.tape]; exact hF) hr0 hrs hrd h (by omega)).mono ?_
  rintro e W2 ⟨p2, rfl, hb2⟩
  have hctx2 := hctx1.below hb2 hctx1.lt
  have hbel2 := hbel1.trans (hb2.mono hbel1.size)
  clear hctx1 hbel1 c0 c1 f0 f1 hb2
  obtain ⟨c0, c1, f0, f1⟩ := hctx2.cells
  go_wp2
  go_ret
  exact ⟨rfl, hbel2⟩
end Go.Proofs.Qxb6616321aFmt
