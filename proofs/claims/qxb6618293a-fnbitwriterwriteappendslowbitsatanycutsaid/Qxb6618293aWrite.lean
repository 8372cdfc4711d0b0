/-
  THE WALK of (*bitWriter).write.
-/
import Derived.Test.Qxb6618293aSteps
import Derived.Deep.AppendLies
import Derived.BigRegion
import Derived.Deep.RegionHeld3
import Derived.Deep.DrawnRows
namespace Go.Proofs.Qxb6618293a
open Go.RowKit Pl
attribute [local go_sem] Go.wp_at_zero Go.wp_at_succ

theorem write_none (wb : Nat) (x size : Int) (w : World) (hs : size ≤ 0) :
    Calls Try.prog 7 #[.pointer (some ⟨wb, 0, none⟩), .int .i64 x, .int .i64 size] w fun e w' => e = .returned (.tuple #[]) ∧ w' = w := by
  have h0 : ¬ 0 < size := by omega
  go_enter Try.func7, Try.ntmps7
  go_wp2
  refine wp_loop_rounds 1 ?_
  rw [rounds_succ]
  go_wp2
  go_end0
  exact ⟨rfl, rfl⟩

set_option maxHeartbeats 1000000 in
theorem write_some (B wb : Nat) (v : Value) (bs : List Int) (f : Nat → Int) (n : Nat) (x : Int) (m : Nat) (w : World)
    (hx0 : -9223372036854775808 ≤ x) (hx1 : x ≤ 9223372036854775807) (hm : m ≤ 65536) (hn : n ≤ 1048576) (hB : B ≤ wb)
    (hblk : w.heap[wb]? = some (.cells #[v, .int .i64 n] 30 (0, 0)))
    (hown : w.ownsRow B 5 1 v bs.length (bs.map (Value.int .u8))) (hrep : Rep bs f n) :
    Calls Try.prog 7 #[.pointer (some ⟨wb, 0, none⟩), .int .i64 x, .int .i64 m] w fun e w' => e = .returned (.tuple #[]) ∧
      ∃ v' bs', w'.heap[wb]? = some (.cells #[v', .int .i64 ((n + m : Nat) : Int)] 30 (0, 0)) ∧ w'.ownsRow B 5 1 v' bs'.length (bs'.map (Value.int .u8)) ∧ Rep bs' (ext f n x) (n + m) ∧ Below B w w' := by
  have hrep0 : Rep bs (ext f n x) n := hrep.congr fun k hk => by unfold ext; rw [if_pos hk]
  clear hrep
  obtain ⟨i0, hi, hz0, hz1, hz2⟩ := info_parts Try.info5
  go_enter Try.func7, Try.ntmps7
  go_wp2
  go_loopw [8] (fun c wr => ∃ (k : Nat) (v : Value) (bs : List Int), k ≤ m ∧ c = .int .i64 k ∧ wr.heap[wb]? = some (.cells #[v, .int .i64 ((n + k : Nat) : Int)] 30 (0, 0)) ∧ wr.ownsRow B 5 1 v bs.length (bs.map (Value.int .u8)) ∧ Rep bs (ext f n x) (n + k) ∧ Below B w wr)
    (fun c _ => m - (intOf c).toNat)
  case atStart => exact ⟨0, v, bs, Nat.zero_le _, rfl, hblk, hown, hrep0, Below.refl _ _⟩
  case round =>
    clear hown hblk hrep0
    obtain ⟨k, v, bs, hk, rfl, hblk, hown, hrep, hbel⟩ := hrel
    by_cases hlt : k < m
    · obtain ⟨N, hN⟩ : ∃ N, n + k = N := ⟨_, rfl⟩
      rw [hN] at hblk hrep
      have HN : Hid (n + k = N) := hN
      have hN1 : N ≤ 2000000 := by omega
      clear hN
      obtain ⟨c0, c1, f0, f1⟩ := two_cells hblk
      have hwb := lt_of_block hblk
      have hne := own_ne hown hblk
      have HL : Hid (bs.length = (N + 7) / 8) := hrep.len
      have hlb : bs.length ≤ 300000 := by rw [HL.out]; omega
      have hrl := room_len hrep.len
      have hra := room_rng (n := N) hrep.rng (N / 8)
      have hra2 := room_lt hrep
      obtain ⟨a, ha⟩ : ∃ a, (room bs N).getD (N / 8) 0 = a := ⟨_, rfl⟩
      rw [ha] at hra hra2
      have HA : Hid ((room bs N).getD (N / 8) 0 = a) := ha
      have hk63 : (0 : Int) ≤ (k : Int) := by omega
      by_cases h8 : N % 8 = 0
      · have h8' : ((N : Int) % 8 == 0) = true := by simp; omega
        go_wp2_with (at_builtin; refine wpList_append_lies _ rfl _ _ 22 rfl B 5 i0 (.int .u8 0) 1 1 Try.underlying22 hi hz0 hz1 hz2 rfl (by decide) v bs.length (bs.map (Value.int .u8)) rfl (hown.alloc _) ⟨wr.heap.size, 0, none⟩ 1 1 [.int .u8 0] rfl rfl (cell_one_new _ _ _) (by simp [Value.oneCell']) (by decide) (by unfold maxLen; omega) (by omega) (by have := hbel.size; simp; omega) (wr.heap.size + 1) (by simp) ?_)
        intro g cap w1 hown1 hgrow hat hgl
        have hblk1 : w1.heap[wb]? = some (.cells #[v, .int .i64 N] 30 (0, 0)) := by
          rw [hgrow.block wb (by simp; omega) (fun e => hne e.symm), heap_alloc_old wr _ hwb]; exact hblk
        have hbel1 : Below B w w1 := (hbel.alloc (by have := hbel.size; omega) _).grown hgrow (by have := hbel.size; simp; omega) (fun q hq => (hown.lt q hq).1)
        obtain ⟨d0, d1, e0, e1⟩ := two_cells hblk1
        clear c0 c1 f0 f1 hgrow hown hbel hblk
        have hgw : g ≠ wb := fun e => own_ne hown1 hblk1 (by simp [Value.ownBlock, e])
        go_wp2
        have hblk := two_set0 (x := .slice (some ⟨g, 0, none⟩) (bs.length + 1) cap) hblk1
        have hown : (w1.setCell ⟨wb, 0, none⟩ (.slice (some ⟨g, 0, none⟩) (bs.length + 1) cap)).ownsRow B 5 1 (.slice (some ⟨g, 0, none⟩) (room bs N).length cap) (room bs N).length ((room bs N).map (Value.int .u8)) := by
          have e : room bs N = bs ++ [0] := by unfold room; rw [if_pos h8]
          rw [e]
          have := ownsRow_setCell_other hown1 (a := ⟨wb, 0, none⟩) (by simp [Value.ownBlock, hgw]) (.slice (some ⟨g, 0, none⟩) (bs.length + 1) cap)
          simpa using this
        have hbel : Below B w (w1.setCell ⟨wb, 0, none⟩ (.slice (some ⟨g, 0, none⟩) (bs.length + 1) cap)) := hbel1.setCell hB _
        clear hblk1 hown1 hbel1 d0 d1 e0 e1 hat hgl h8'
        have hll : bs.length + 1 = N / 8 + 1 := by have := HL.out; omega
        generalize w1.setCell ⟨wb, 0, none⟩ (.slice (some ⟨g, 0, none⟩) (bs.length + 1) cap) = W at *
        have hac : W.cell? ⟨g, N / 8, none⟩ = some (.int .u8 a) := by
          rw [hown.cellAt (N / 8) (by omega), List.getElem?_map, List.getElem?_eq_getElem (by omega), ← ha, List.getD_eq_getElem?_getD, List.getElem?_eq_getElem (by omega)]; rfl
        have haf : W.frozen? ⟨g, N / 8, none⟩ = false := hown.frozenAt (N / 8)
        obtain ⟨c0, c1, f0, f1⟩ := two_cells hblk
        clear ha
        have HLL : Hid (bs.length + 1 = N / 8 + 1) := hll
        have hq : (N : Int) / 8 < (bs.length : Int) + 1 := by omega
        have HRL : Hid ((room bs N).length = N / 8 + 1) := hrl
        clear hll hrl h8
        go_region
        go_wp2
        have R := rel_put HN.out (HLL.out.trans HRL.out.symm) hown hblk hgw hB hbel hrep HA.out hx0 hx1
        go_roundw
        case rel => exact ⟨k + 1, _, _, by omega, by go_num, R.1, R.2.1, R.2.2.1, R.2.2.2⟩
        case measure => simp [intOf]; omega
      · have h8' : ((N : Int) % 8 == 0) = false := by simp; omega
        have h1 := HL.out
        obtain ⟨g, cap, rfl, hgB, hgl⟩ := hown.form (by omega)
        have e : room bs N = bs := by unfold room; rw [if_neg h8]
        have hgw : g ≠ wb := fun e => hne (by simp [Value.ownBlock, e])
        have HE : Hid (room bs N = bs) := e
        rw [e] at ha hrl
        have hac : wr.cell? ⟨g, N / 8, none⟩ = some (.int .u8 a) := by
          rw [hown.cellAt (N / 8) (by omega), List.getElem?_map, List.getElem?_eq_getElem (by omega), ← ha, List.getD_eq_getElem?_getD, List.getElem?_eq_getElem (by omega)]; rfl
        have haf : wr.frozen? ⟨g, N / 8, none⟩ = false := hown.frozenAt (N / 8)
        have hq : (N : Int) / 8 < (bs.length : Int) := by omega
        clear ha h8 h1 hrl hgB e
        have h8 := h8'
        clear h8'
        go_wp2
        clear h8
        go_region
        go_wp2
        have R := rel_put (L := bs.length) HN.out (by rw [HE.out]) (by rw [HE.out]; exact hown) hblk hgw hB hbel hrep HA.out hx0 hx1
        go_roundw
        case rel => exact ⟨k + 1, _, _, by omega, by go_num, R.1, R.2.1, R.2.2.1, R.2.2.2⟩
        case measure => simp [intOf]; omega
    · have hkm : k = m := by omega
      subst hkm
      go_wp2
      go_end0
      exact ⟨rfl, v, bs, hblk, hown, hrep, hbel⟩
end Go.Proofs.Qxb6618293a
