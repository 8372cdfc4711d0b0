/-
  THE WALK of the law FnTakeScriptCounts.
-/
import Derived.Test.Qxb6616321aFmtScriptA
import Derived.Deep.QuietTactic
import Derived.BigQuiet
import Derived.WalkSmall
namespace Go.Proofs.Qxb6616321aFmt
open Go.RowKit Go.Extern.Stop Go.Stop Go.Extern

set_option maxRecDepth 100000 in
set_option maxHeartbeats 2000000 in
theorem law_main (F : Interp) (up down : Int) (a : Option Addr) (n c : Nat) (zs : List Int) (w : World) (hF : F.answers w.tape)
    (hu0 : 0 ≤ up) (hu1 : up ≤ 4294967295) (hd0 : 0 ≤ down) (hd1 : down ≤ 4294967295) (hn : n ≤ 65536)
    (hz : ∀ j, 0 ≤ zs.getD j 0)
    (hl : 0 < n → ∃ b off, a = some ⟨b, off, none⟩ ∧ b < w.heap.size ∧ ∀ j, j < n → w.cell? ⟨b, off + j, none⟩ = some (.int .u8 (zs.getD j 0))) :
    Calls Tryf.prog 3 #[.int .u32 up, .int .u32 down, .slice a n c] w fun e w' => e = .returned (.bool true) ∧ Below w.heap.size w w' := by
  have h1 : ¬ (65536 : Int) < (n : Int) := by omega
  have hn2 : n ≤ 1048576 := by omega
  have HL := (show Hid _ from hl)
  have HZS := (show Hid _ from hz)
  clear hl hz
  go_enter Tryf.func3, Tryf.ntmps3
  go_wp2_with fail
  refine (zzBytes_any _ _ a n c _ (by unfold maxLen; omega)).mono ?_
  rintro e w1 ⟨rfl, rfl⟩
  rw [decide_eq_true hn2]
  go_wp2
  go_loopw [7] (fun c wr => ∃ k : Nat, c = .int .i64 k ∧ k ≤ n ∧ w = wr ∧ Hid (∀ j, j < k → zs.getD j 0 ≤ 1)) (fun c _ => n - (intOf c).toNat)
  case atStart => exact ⟨0, rfl, Nat.zero_le _, rfl, fun j h => by omega⟩
  case round =>
    obtain ⟨k, rfl, hk, rfl, HLE⟩ := hrel
    by_cases hlt : k < n
    · obtain ⟨b, off, rfl, hb, hcell⟩ := HL.out (by omega)
      have hc := hcell k hlt
      have h0 := HZS.out k
      clear hcell
      obtain ⟨z, hzk⟩ : ∃ z, zs.getD k 0 = z := ⟨_, rfl⟩
      rw [hzk] at hc h0
      have HZ : Hid (zs.getD k 0 = z) := hzk
      clear hzk
      have hlt' : (k : Int) < (n : Int) := by omega
      by_cases hz1 : z ≤ 1
      · go_wp2
        go_roundw
        case rel => exact ⟨k + 1, rfl, by omega, trivial, fun j hj => by
          rcases Nat.lt_or_ge j k with h | h
          · exact HLE.out j h
          · obtain rfl : j = k := by omega
            rw [HZ.out]; exact hz1⟩
        case measure => simp [intOf]; omega
      · have hz1' : 1 < z := by omega
        go_wp2
        go_ret
        exact ⟨rfl, Below.refl _ _⟩
    · obtain rfl : k = n := by omega
      go_wp2_with fail
      clear hn2 hlt hk
      go_loopw [11] (fun c wr => ∃ (i k0 k1 : Nat) (u d : Int), c = .int .i64 i ∧ i ≤ k ∧ k0 ≤ i ∧ k1 ≤ i ∧ Cur up k0 u ∧ Cur down k1 d ∧ Ctx wr w.heap.size u d ∧ Pair wr (w.heap.size + 1) up down ∧ Pair wr (w.heap.size + 1 + 1) k0 k1 ∧ Below w.heap.size w wr) (fun c _ => k - (intOf c).toNat)
      case atStart =>
        refine ⟨0, 0, 0, up, down, rfl, Nat.zero_le _, Nat.le_refl _, Nat.le_refl _, ?_, ?_, ?_, ?_, ?_, ?_⟩
        · unfold Cur; omega
        · unfold Cur; omega
        · exact ⟨_, by rw [Below.heap_alloc _ _ _ (by simp; omega), Below.heap_alloc _ _ _ (by simp)]; exact heap_alloc_new w _, rfl, rfl⟩
        · unfold Pair
          rw [Below.heap_alloc _ _ _ (by simp)]
          exact new1 _ _ _
        · exact new2 _ _ _ _
        · exact (((Below.refl _ w).alloc (Nat.le_refl _) _).alloc (by simp) _).alloc (by simp; omega) _
      case round =>
        obtain ⟨i, k0, k1, u, d, rfl, hi, hk0, hk1, cu, cd, hctx, hs, hp, hbel⟩ := hrel
        by_cases hlt : i < k
        · obtain ⟨b, off, rfl, hb, hcell⟩ := HL.out (by omega)
          have hc : wr.cell? ⟨b, off + i, none⟩ = some (.int .u8 (zs.getD i 0)) := by
            rw [hbel.cell hb]; exact hcell i hlt
          have h0 := HZS.out i
          have h1 := HLE.out i hlt
          clear hcell
          obtain ⟨z, hzk⟩ : ∃ z, zs.getD i 0 = z := ⟨_, rfl⟩
          rw [hzk] at hc h0 h1
          clear hzk
          have hlt' : (i : Int) < (k : Int) := by omega
          obtain ⟨c0, c1, f0, f1⟩ := hctx.cells
          have hz01 : z = 0 ∨ z = 1 := by omega
          rcases hz01 with rfl | rfl
          · by_cases hw : up + k0 ≤ 16777215
            · have hu : u = up + k0 := by unfold Cur at cu; omega
              subst hu
              go_wp2_with fail
              refine (take0_ok w.heap.size (up + k0) _ c0 f0 (by omega) (by omega)).mono ?_
              rintro e w1 ⟨rfl, rfl⟩
              have hctx1 := hctx.set0 (x := up + k0 + 1)
              have hs1 := hs.other ⟨w.heap.size, 0, none⟩ (.int .u32 (up + k0 + 1)) (by simp)
              have hp1 := hp.other ⟨w.heap.size, 0, none⟩ (.int .u32 (up + k0 + 1)) (by simp; omega)
              have hbel1 := hbel.setCell (p := ⟨w.heap.size, 0, none⟩) (Nat.le_refl _) (.int .u32 (up + k0 + 1))
              clear hctx hs hp hbel c0 c1 f0 f1 hc
              generalize wr.setCell ⟨w.heap.size, 0, none⟩ (.int .u32 (up + k0 + 1)) = W1 at *
              obtain ⟨s0, s1, s2, s3⟩ := hs1.cells
              obtain ⟨p0, p1, p2, p3⟩ := hp1.cells
              go_wp2
              go_quiet (fail)
              go_wp2
              go_roundw
              case rel =>
                obtain ⟨t1, t2, t3, t4⟩ := turn0 _ hctx1 hs1 hp1 hbel1
                exact ⟨i + 1, k0 + 1, k1, _, _, rfl, by omega, by omega, by omega, by unfold Cur at *; omega, cd, t1, t2, t3, t4⟩
              case measure => simp [intOf]; omega
            · have hu : 16777215 < u := by unfold Cur at cu; omega
              have hw' : 16777215 < up + k0 := by omega
              go_wp2_with fail
              refine (take0_used F w.heap.size u _ (by rw [hbel.tape]; exact hF) c0 hu).mono ?_
              rintro e W1 ⟨p, rfl, hb1⟩
              have hctx1 := hctx.below hb1 hctx.lt
              have hs1 := hs.below hb1 hs.lt
              have hp1 := hp.below hb1 hp.lt
              have hbel1 := hbel.trans (hb1.mono hbel.size)
              clear hctx hs hp hbel c0 c1 f0 f1 hc hb1
              obtain ⟨s0, s1, s2, s3⟩ := hs1.cells
              obtain ⟨p0, p1, p2, p3⟩ := hp1.cells
              go_wp2
              go_quiet (fail)
              go_wp2
              go_roundw
              case rel =>
                obtain ⟨t1, t2, t3, t4⟩ := turn0 _ hctx1 hs1 hp1 hbel1
                exact ⟨i + 1, k0 + 1, k1, _, _, rfl, by omega, by omega, by omega, by unfold Cur at *; omega, cd, t1, t2, t3, t4⟩
              case measure => simp [intOf]; omega
          · by_cases hw : down + k1 ≤ 16777215
            · have hu : d = down + k1 := by unfold Cur at cd; omega
              subst hu
              go_wp2_with fail
              refine (take1_ok w.heap.size (down + k1) _ c1 f1 (by omega) (by omega)).mono ?_
              rintro e w1 ⟨rfl, rfl⟩
              have hctx1 := hctx.set1 (x := down + k1 + 1)
              have hs1 := hs.other ⟨w.heap.size, 1, none⟩ (.int .u32 (down + k1 + 1)) (by simp)
              have hp1 := hp.other ⟨w.heap.size, 1, none⟩ (.int .u32 (down + k1 + 1)) (by simp; omega)
              have hbel1 := hbel.setCell (p := ⟨w.heap.size, 1, none⟩) (Nat.le_refl _) (.int .u32 (down + k1 + 1))
              clear hctx hs hp hbel c0 c1 f0 f1 hc
              generalize wr.setCell ⟨w.heap.size, 1, none⟩ (.int .u32 (down + k1 + 1)) = W1 at *
              obtain ⟨s0, s1, s2, s3⟩ := hs1.cells
              obtain ⟨p0, p1, p2, p3⟩ := hp1.cells
              go_wp2
              go_quiet (fail)
              go_wp2
              go_roundw
              case rel =>
                obtain ⟨t1, t2, t3, t4⟩ := turn1 _ hctx1 hs1 hp1 hbel1
                exact ⟨i + 1, k0, k1 + 1, _, _, rfl, by omega, by omega, by omega, cu, by unfold Cur at *; omega, t1, t2, t3, t4⟩
              case measure => simp [intOf]; omega
            · have hu : 16777215 < d := by unfold Cur at cd; omega
              have hw' : 16777215 < down + k1 := by omega
              go_wp2_with fail
              refine (take1_used F w.heap.size d _ (by rw [hbel.tape]; exact hF) c1 hu).mono ?_
              rintro e W1 ⟨p, rfl, hb1⟩
              have hctx1 := hctx.below hb1 hctx.lt
              have hs1 := hs.below hb1 hs.lt
              have hp1 := hp.below hb1 hp.lt
              have hbel1 := hbel.trans (hb1.mono hbel.size)
              clear hctx hs hp hbel c0 c1 f0 f1 hc hb1
              obtain ⟨s0, s1, s2, s3⟩ := hs1.cells
              obtain ⟨p0, p1, p2, p3⟩ := hp1.cells
              go_wp2
              go_quiet (fail)
              go_wp2
              go_roundw
              case rel =>
                obtain ⟨t1, t2, t3, t4⟩ := turn1 _ hctx1 hs1 hp1 hbel1
                exact ⟨i + 1, k0, k1 + 1, _, _, rfl, by omega, by omega, by omega, cu, by unfold Cur at *; omega, t1, t2, t3, t4⟩
              case measure => simp [intOf]; omega
        · obtain rfl : i = k := by omega
          clear hlt hi
          go_wp2_with fail
          go_loopw [16] (fun c wr => ∃ j : Nat, c = .int .i64 j ∧ j ≤ 2 ∧ Ctx wr w.heap.size u d ∧ Pair wr (w.heap.size + 1) up down ∧ Pair wr (w.heap.size + 1 + 1) k0 k1 ∧ Below w.heap.size w wr) (fun c _ => 2 - (intOf c).toNat)
          case atStart => exact ⟨0, rfl, by omega, hctx, hs, hp, hbel⟩
          case round =>
            clear hctx hs hp hbel
            obtain ⟨j, rfl, hj, hctx2, hs2, hp2, hbel2⟩ := hrel
            obtain ⟨c0, c1, f0, f1⟩ := hctx2.cells
            obtain ⟨s0, s1, s2, s3⟩ := hs2.cells
            obtain ⟨p0, p1, p2, p3⟩ := hp2.cells
            have hj3 : j = 0 ∨ j = 1 ∨ j = 2 := by omega
            rcases hj3 with rfl | rfl | rfl
            · rcases cu with ⟨h2, rfl⟩ | ⟨h2, h3, rfl⟩ | ⟨h2, h3, rfl⟩
              · go_wp2
                go_roundw
                case rel => exact ⟨1, rfl, by omega, hctx2, hs2, hp2, hbel2⟩
                case measure => simp [intOf]
              · go_wp2
                go_quiet (fail)
                go_wp2
                go_roundw
                case rel => exact ⟨1, rfl, by omega, hctx2, hs2, hp2, below_drewN hbel2 _⟩
                case measure => simp [intOf]
              · go_wp2
                go_quiet (fail)
                go_wp2
                go_roundw
                case rel => exact ⟨1, rfl, by omega, hctx2, hs2, hp2, below_drewN hbel2 _⟩
                case measure => simp [intOf]
            · rcases cd with ⟨h2, rfl⟩ | ⟨h2, h3, rfl⟩ | ⟨h2, h3, rfl⟩
              · go_wp2
                go_roundw
                case rel => exact ⟨2, rfl, by omega, hctx2, hs2, hp2, hbel2⟩
                case measure => simp [intOf]
              · go_wp2
                go_quiet (fail)
                go_wp2
                go_roundw
                case rel => exact ⟨2, rfl, by omega, hctx2, hs2, hp2, below_drewN hbel2 _⟩
                case measure => simp [intOf]
              · go_wp2
                go_quiet (fail)
                go_wp2
                go_roundw
                case rel => exact ⟨2, rfl, by omega, hctx2, hs2, hp2, below_drewN hbel2 _⟩
                case measure => simp [intOf]
            · go_wp2
              go_ret
              exact ⟨rfl, hbel2⟩
end Go.Proofs.Qxb6616321aFmt
