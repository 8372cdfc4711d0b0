/-
  THE WALKS: zzBytes, zzCloneBytes.
-/
import Derived.Test.Qxb6618293aPlain
import Derived.WalkKit
import Derived.WalkSpells
import Derived.ProofKit
import Derived.Below
import Derived.OneCell
namespace Go.Proofs.Qxb6618293a
open Go.RowKit

theorem Try.info5 : (Try.prog.info? 5).map (fun i => (i.zero, i.size, i.bytes)) = some (some (.int .u8 0), 1, 1) := by kernel_rfl

/-- zzBytes: the length is at most 2^20. -/
theorem zzBytes_any (a : Option Addr) (n c : Nat) (x1 x2 x3 x4 : Value) (w : World) (hn : n ≤ maxLen) :
    Calls Try.prog 4 #[.slice a n c, x1, x2, x3, x4] w fun e w' => e = .returned (.bool (decide (n ≤ 1048576))) ∧ w' = w := by
  unfold maxLen at hn
  by_cases h : n ≤ 1048576
  · rw [decide_eq_true h]
    go_enter Try.func4, Try.ntmps4
    go_wp2
    go_ret
    exact ⟨rfl, rfl⟩
  · rw [decide_eq_false h]
    have h' : 1048576 < n := by omega
    go_enter Try.func4, Try.ntmps4
    go_wp2
    go_ret
    exact ⟨rfl, rfl⟩

/-- k of n bytes copied. -/
def copied (zs : List Int) (n k : Nat) : List Int := zs.take k ++ List.replicate (n - k) 0
theorem copied_zero (zs : List Int) (n : Nat) : copied zs n 0 = List.replicate n 0 := by simp [copied]
theorem copied_all (zs : List Int) (n : Nat) (h : zs.length = n) : copied zs n n = zs := by simp [copied, ← h]
theorem copied_get (zs : List Int) {n k : Nat} (hz : zs.length = n) (h : k ≤ n) (j : Nat) : (copied zs n k)[j]? = if j < k then zs[j]? else if j < n then some 0 else none := by
  subst hz
  have hm : min k zs.length = k := Nat.min_eq_left h
  unfold copied
  simp only [List.getElem?_append, List.length_take, hm, List.getElem?_take, List.getElem?_replicate]
  split
  · rfl
  · by_cases h3 : j < zs.length
    · rw [if_pos (by omega), if_pos h3]
    · rw [if_neg (by omega), if_neg h3]
theorem copied_at (zs : List Int) {n k : Nat} (hz : zs.length = n) (h : k < n) : ((copied zs n k).map (Value.int .u8))[k]? = some (.int .u8 0) := by
  rw [List.getElem?_map, copied_get zs hz (by omega), if_neg (by omega), if_pos h]; rfl
theorem copied_len (zs : List Int) {n k : Nat} (hz : zs.length = n) (h : k ≤ n) : (copied zs n k).length = n := by
  subst hz; unfold copied; simp; omega
theorem copied_succ (zs : List Int) {n k : Nat} (hz : zs.length = n) (h : k < n) : ((copied zs n k).map (Value.int .u8)).set k (.int .u8 (zs.getD k 0)) = (copied zs n (k + 1)).map (Value.int .u8) := by
  rw [← List.map_set]
  congr 1
  apply List.ext_getElem?
  intro j
  rw [List.getElem?_set, copied_get zs hz (by omega), copied_get zs hz (by omega), copied_len zs hz (by omega)]
  by_cases e : k = j
  · subst e
    rw [if_pos rfl, if_pos h, if_pos (by omega), List.getD_eq_getElem?_getD, List.getElem?_eq_getElem (by omega)]
    rfl
  · rw [if_neg e]
    by_cases h2 : j < k
    · rw [if_pos h2, if_pos (by omega)]
    · rw [if_neg h2, if_neg (show ¬ j < k + 1 by omega)]

/-- zzCloneBytes. -/
theorem clone_nil (w : World) : Calls Try.prog 5 #[.slice none 0 0] w fun e w' => e = .returned (.slice none 0 0) ∧ w' = w := by
  have hnil : ∀ W, (binOp .eql 22 (.slice none 0 0) (.slice none 0 0)).run Try.prog W = .ok (.bool true) W := fun W => Lib.run_eql_slice_nil W _ _ none 0 0 0 0 Try.underlying22
  go_enter Try.func5, Try.ntmps5
  go_wp2
  go_ret
  exact ⟨rfl, rfl⟩

set_option maxHeartbeats 400000 in
theorem clone_some (b off n c : Nat) (zs : List Int) (w : World) (hz : zs.length = n) (hn : n ≤ 1048576) (hb : b < w.heap.size)
    (hc : ∀ j, j < n → w.cell? ⟨b, off + j, none⟩ = some (.int .u8 (zs.getD j 0))) :
    Calls Try.prog 5 #[.slice (some ⟨b, off, none⟩) n c] w fun e w' => ∃ cap, e = .returned (.slice (some ⟨w.heap.size, 0, none⟩) n cap) ∧ w'.ownsRow w.heap.size 5 1 (.slice (some ⟨w.heap.size, 0, none⟩) n cap) n (zs.map (Value.int .u8)) ∧ Below w.heap.size w w' := by
  obtain ⟨i0, hi, hz0, hz1, hz2⟩ := info_parts Try.info5
  have hnil : ∀ W, (binOp .eql 22 (.slice (some ⟨b, off, none⟩) n c) (.slice none 0 0)).run Try.prog W = .ok (.bool false) W := fun W => Lib.run_eql_slice_nil W _ _ _ _ _ 0 0 Try.underlying22
  go_enter Try.func5, Try.ntmps5
  go_wp2_with (at_make; refine wpList_make_full _ rfl _ _ 22 rfl w.heap.size 5 i0 (.int .u8 0) 1 Try.underlying22 hi hz0 hz1 _ _ _ _ n rfl rfl rfl rfl (by rw [hz2]; omega) (by unfold maxLen; omega) (Nat.le_refl _) ?_)
  intro w1 hown hgrow
  have hb0 : Below w.heap.size w w1 := (Below.refl _ _).grown hgrow (Nat.le_refl _) (by simp)
  go_wp2
  go_loopw [4] (fun i wr => ∃ k : Nat, k ≤ n ∧ i = .int .i64 k ∧ wr.ownsRow w.heap.size 5 1 (.slice (some ⟨w.heap.size, 0, none⟩) n n) n ((copied zs n k).map (Value.int .u8)) ∧ Below w.heap.size w wr) (fun i _ => n - (intOf i).toNat)
  case atStart => exact ⟨0, Nat.zero_le _, rfl, by simpa [copied_zero, toList_madeCells_one] using hown, hb0⟩
  case round =>
    clear hown hgrow hb0
    obtain ⟨k, hk, rfl, hown, hbel⟩ := hrel
    by_cases hlt : k < n
    · obtain ⟨z, hzk⟩ : ∃ z, zs.getD k 0 = z := ⟨_, rfl⟩
      have HZ : Hid (zs.getD k 0 = z) := hzk
      have hcx : wr.cell? ⟨b, off + k, none⟩ = some (.int .u8 z) := by rw [← hzk]; exact (hbel.cell (by exact hb)).trans (hc k hlt)
      clear hzk
      have hcy : wr.cell? ⟨w.heap.size, k, none⟩ = some (.int .u8 0) := by
        rw [hown.cellAt k (by omega)]; exact copied_at zs hz hlt
      have hfy : wr.frozen? ⟨w.heap.size, k, none⟩ = false := hown.frozenAt k
      go_wp2
      go_roundw
      case rel => exact ⟨k + 1, by omega, by go_num, by rw [← copied_succ zs hz hlt, HZ.out]; exact (hown.stored k _).1, hbel.setCell (Nat.le_refl _) _⟩
      case measure => simp [intOf]; omega
    · have hkn : k = n := by omega
      subst hkn
      go_wp2
      go_ret
      exact ⟨k, rfl, by rw [copied_all zs k hz] at hown; exact hown, hbel⟩

set_option maxHeartbeats 400000 in
/-- An empty slice that is not nil: nothing is known of its address. -/
theorem clone_empty (ad : Addr) (c : Nat) (w : World) :
    Calls Try.prog 5 #[.slice (some ad) 0 c] w fun e w' => ∃ cap, e = .returned (.slice (some ⟨w.heap.size, 0, none⟩) 0 cap) ∧ w'.ownsRow w.heap.size 5 1 (.slice (some ⟨w.heap.size, 0, none⟩) 0 cap) 0 [] ∧ Below w.heap.size w w' := by
  obtain ⟨i0, hi, hz0, hz1, hz2⟩ := info_parts Try.info5
  have hnil : ∀ W, (binOp .eql 22 (.slice (some ad) 0 c) (.slice none 0 0)).run Try.prog W = .ok (.bool false) W := fun W => Lib.run_eql_slice_nil W _ _ _ _ _ 0 0 Try.underlying22
  go_enter Try.func5, Try.ntmps5
  go_wp2_with (at_make; refine wpList_make_full _ rfl _ _ 22 rfl w.heap.size 5 i0 (.int .u8 0) 1 Try.underlying22 hi hz0 hz1 _ _ _ _ 0 rfl rfl rfl rfl (by omega) (by unfold maxLen; omega) (Nat.le_refl _) ?_)
  intro w1 hown hgrow
  have hb0 : Below w.heap.size w w1 := (Below.refl _ _).grown hgrow (Nat.le_refl _) (by simp)
  have hown' : w1.ownsRow w.heap.size 5 1 (.slice (some ⟨w.heap.size, 0, none⟩) 0 0) 0 [] := by simpa [toList_madeCells_one] using hown
  clear hown hgrow
  go_wp2
  refine wp_loop_rounds 1 ?_
  rw [rounds_succ]
  go_wp2
  go_ret
  exact ⟨0, rfl, hown', hb0⟩
end Go.Proofs.Qxb6618293a
