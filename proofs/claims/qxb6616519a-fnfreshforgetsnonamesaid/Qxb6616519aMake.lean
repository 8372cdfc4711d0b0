/-
  cloneBytes; ZZNewLineMembers.
-/
import Derived.Test.Qxb6616519aBytes
import Derived.BigRegion
import Derived.Deep.RegionHeld3
namespace Go.Proofs.Qxb6616519a
open Go.RowKit

theorem info5 : (Try.prog.info? 5).map (fun i => (i.zero, i.size, i.bytes)) = some (some (.int .u8 0), 1, 1) := by kernel_rfl

/-- k of n bytes copied. -/
def copied (zs : List Int) (n k : Nat) : List Int := zs.take k ++ List.replicate (n - k) 0
theorem copied_zero (zs : List Int) (n : Nat) : copied zs n 0 = List.replicate n 0 := by simp [copied]
theorem copied_all (zs : List Int) (n : Nat) (h : zs.length = n) : copied zs n n = zs := by simp [copied, ← h]
theorem copied_get (zs : List Int) {n k : Nat} (hz : zs.length = n) (h : k ≤ n) (j : Nat) : (copied zs n k)[j]? = if j < k then zs[j]? else if j < n then some 0 else none := by
  subst hz
  have hm : min k zs.length = k := Nat.min_eq_left h
  unfold copied
  simp only [List.getElem?_append, List.length_take, hm, List.getElem?_take, List.getElem?_replicate]
  split
  · rfl
  · by_cases h3 : j < zs.length
    · rw [if_pos (by omega), if_pos h3]
    · rw [if_neg (by omega), if_neg h3]
theorem copied_at (zs : List Int) {n k : Nat} (hz : zs.length = n) (h : k < n) : ((copied zs n k).map (Value.int .u8))[k]? = some (.int .u8 0) := by
  rw [List.getElem?_map, copied_get zs hz (by omega), if_neg (by omega), if_pos h]; rfl
theorem copied_len (zs : List Int) {n k : Nat} (hz : zs.length = n) (h : k ≤ n) : (copied zs n k).length = n := by
  subst hz; unfold copied; simp; omega
theorem copied_succ (zs : List Int) {n k : Nat} (hz : zs.length = n) (h : k < n) : ((copied zs n k).map (Value.int .u8)).set k (.int .u8 (zs.getD k 0)) = (copied zs n (k + 1)).map (Value.int .u8) := by
  rw [← List.map_set]
  congr 1
  apply List.ext_getElem?
  intro j
  rw [List.getElem?_set, copied_get zs hz (by omega), copied_get zs hz (by omega), copied_len zs hz (by omega)]
  by_cases e : k = j
  · subst e
    rw [if_pos rfl, if_pos h, if_pos (by omega), List.getD_eq_getElem?_getD, List.getElem?_eq_getElem (by omega)]
    rfl
  · rw [if_neg e]
    by_cases h2 : j < k
    · rw [if_pos h2, if_pos (by omega)]
    · rw [if_neg h2, if_neg (show ¬ j < k + 1 by omega)]

/-- cloneBytes. -/
theorem clone_nil (w : World) : Calls Try.prog 22 #[.slice none 0 0] w fun e w' => e = .returned (.slice none 0 0) ∧ w' = w := by
  have hnil : ∀ W, (binOp .eql 40 (.slice none 0 0) (.slice none 0 0)).run Try.prog W = .ok (.bool true) W := fun W => Lib.run_eql_slice_nil W _ _ none 0 0 0 0 Try.underlying40
  go_enter Try.func22, Try.ntmps22
  go_wp2
  go_ret
  exact ⟨rfl, rfl⟩

set_option maxHeartbeats 400000 in
theorem clone_some (b off n c : Nat) (zs : List Int) (w : World) (hz : zs.length = n) (hn : n ≤ 1048576) (hb : b < w.heap.size)
    (hc : ∀ j, j < n → w.cell? ⟨b, off + j, none⟩ = some (.int .u8 (zs.getD j 0))) :
    Calls Try.prog 22 #[.slice (some ⟨b, off, none⟩) n c] w fun e w' => ∃ cap, e = .returned (.slice (some ⟨w.heap.size, 0, none⟩) n cap) ∧ w'.ownsRow w.heap.size 5 1 (.slice (some ⟨w.heap.size, 0, none⟩) n cap) n (zs.map (Value.int .u8)) ∧ Below w.heap.size w w' := by
  obtain ⟨i0, hi, hz0, hz1, hz2⟩ := info_parts info5
  have hnil : ∀ W, (binOp .eql 40 (.slice (some ⟨b, off, none⟩) n c) (.slice none 0 0)).run Try.prog W = .ok (.bool false) W := fun W => Lib.run_eql_slice_nil W _ _ _ _ _ 0 0 Try.underlying40
  go_enter Try.func22, Try.ntmps22
  go_wp2_with (at_make; refine wpList_make_full _ rfl _ _ 40 rfl w.heap.size 5 i0 (.int .u8 0) 1 Try.underlying40 hi hz0 hz1 _ _ _ _ n rfl rfl rfl rfl (by rw [hz2]; omega) (by unfold maxLen; omega) (Nat.le_refl _) ?_)
  intro w1 hown hgrow
  have hb0 : Below w.heap.size w w1 := (Below.refl _ _).grown hgrow (Nat.le_refl _) (by simp)
  go_wp2
  go_loopw [4] (fun i wr => ∃ k : Nat, k ≤ n ∧ i = .int .i64 k ∧ wr.ownsRow w.heap.size 5 1 (.slice (some ⟨w.heap.size, 0, none⟩) n n) n ((copied zs n k).map (Value.int .u8)) ∧ Below w.heap.size w wr) (fun i _ => n - (intOf i).toNat)
  case atStart => exact ⟨0, Nat.zero_le _, rfl, by simpa [copied_zero, toList_madeCells_one] using hown, hb0⟩
  case round =>
    clear hown hgrow hb0
    obtain ⟨k, hk, rfl, hown, hbel⟩ := hrel
    by_cases hlt : k < n
    · obtain ⟨z, hzk⟩ : ∃ z, zs.getD k 0 = z := ⟨_, rfl⟩
      have HZ : Hid (zs.getD k 0 = z) := hzk
      have hcx : wr.cell? ⟨b, off + k, none⟩ = some (.int .u8 z) := by rw [← hzk]; exact (hbel.cell (by exact hb)).trans (hc k hlt)
      clear hzk
      have hcy : wr.cell? ⟨w.heap.size, k, none⟩ = some (.int .u8 0) := by
        rw [hown.cellAt k (by omega)]; exact copied_at zs hz hlt
      have hfy : wr.frozen? ⟨w.heap.size, k, none⟩ = false := hown.frozenAt k
      go_wp2
      go_roundw
      case rel => exact ⟨k + 1, by omega, by go_num, by rw [← copied_succ zs hz hlt, HZ.out]; exact (hown.stored k _).1, hbel.setCell (Nat.le_refl _) _⟩
      case measure => simp [intOf]; omega
    · have hkn : k = n := by omega
      subst hkn
      go_wp2
      go_ret
      exact ⟨k, rfl, by rw [copied_all zs k hz] at hown; exact hown, hbel⟩

set_option maxHeartbeats 400000 in
/-- An empty slice that is not nil: nothing is known of its address. -/
theorem clone_empty (ad : Addr) (c : Nat) (w : World) :
    Calls Try.prog 22 #[.slice (some ad) 0 c] w fun e w' => ∃ cap, e = .returned (.slice (some ⟨w.heap.size, 0, none⟩) 0 cap) ∧ w'.ownsRow w.heap.size 5 1 (.slice (some ⟨w.heap.size, 0, none⟩) 0 cap) 0 [] ∧ Below w.heap.size w w' := by
  obtain ⟨i0, hi, hz0, hz1, hz2⟩ := info_parts info5
  have hnil : ∀ W, (binOp .eql 40 (.slice (some ad) 0 c) (.slice none 0 0)).run Try.prog W = .ok (.bool false) W := fun W => Lib.run_eql_slice_nil W _ _ _ _ _ 0 0 Try.underlying40
  go_enter Try.func22, Try.ntmps22
  go_wp2_with (at_make; refine wpList_make_full _ rfl _ _ 40 rfl w.heap.size 5 i0 (.int .u8 0) 1 Try.underlying40 hi hz0 hz1 _ _ _ _ 0 rfl rfl rfl rfl (by omega) (by unfold maxLen; omega) (Nat.le_refl _) ?_)
  intro w1 hown hgrow
  have hb0 : Below w.heap.size w w1 := (Below.refl _ _).grown hgrow (Nat.le_refl _) (by simp)
  have hown' : w1.ownsRow w.heap.size 5 1 (.slice (some ⟨w.heap.size, 0, none⟩) 0 0) 0 [] := by simpa [toList_madeCells_one] using hown
  clear hown hgrow
  go_wp2
  refine wp_loop_rounds 1 ?_
  rw [rounds_succ]
  go_wp2
  go_ret
  exact ⟨0, rfl, hown', hb0⟩

theorem bytes_of_own {w : World} {B n c g : Nat} {xs : List Int} (hx : xs.length = n) (hr : ∀ x ∈ xs, 0 ≤ x ∧ x ≤ 255) (hg : g < w.heap.size) (h : w.ownsRow B 5 1 (.slice (some ⟨g, 0, none⟩) n c) n (xs.map (Value.int .u8))) : BytesAt w w.heap.size (some ⟨g, 0, none⟩) n xs := by
  refine ⟨hx, hr, fun hn => ⟨g, 0, rfl, hg, fun j hj => ?_⟩⟩
  rw [Nat.zero_add, h.cellAt j (by omega), List.getElem?_map, List.getElem?_eq_getElem (by omega), List.getD_eq_getElem?_getD, List.getElem?_eq_getElem (by omega)]
  rfl

theorem clone_any (a : Option Addr) (n c M : Nat) (xs : List Int) (w : World) (hn : n ≤ 1048576) (hM : M ≤ w.heap.size) (h0 : a = none → n = 0 ∧ c = 0) (h : BytesAt w M a n xs) :
    Calls Try.prog 22 #[.slice a n c] w fun e w' => ∃ a' c', e = .returned (.slice a' n c') ∧ BytesAt w' w'.heap.size a' n xs ∧ Below w.heap.size w w' ∧ ∀ b off, a' = some ⟨b, off, none⟩ → w.heap.size ≤ b := by
  cases a with
  | none =>
    obtain ⟨rfl, rfl⟩ := h0 rfl
    obtain rfl := List.eq_nil_of_length_eq_zero h.1
    refine (clone_nil w).mono ?_
    rintro e w' ⟨rfl, rfl⟩
    exact ⟨none, 0, rfl, ⟨rfl, h.2.1, fun hn => by omega⟩, Below.refl _ _, fun b off e => by cases e⟩
  | some ad =>
    rcases Nat.eq_zero_or_pos n with hn0 | hn0
    · subst hn0
      obtain rfl := List.eq_nil_of_length_eq_zero h.1
      refine (clone_empty ad c w).mono ?_
      rintro e w' ⟨cap, rfl, ho, hbel⟩
      exact ⟨_, cap, rfl, ⟨rfl, h.2.1, fun hn => by omega⟩, hbel, fun b off e => by cases e; exact Nat.le_refl _⟩
    obtain ⟨b, off, e, hb, hc⟩ := h.2.2 hn0
    cases e
    refine (clone_some b off n c xs w h.1 hn (by omega) hc).mono ?_
    rintro e w' ⟨cap, rfl, ho, hbel⟩
    exact ⟨_, cap, rfl, bytes_of_own h.1 h.2.1 (ho.lt w.heap.size (by simp [Value.ownBlock])).2 ho, hbel, fun b off e => by cases e; exact Nat.le_refl _⟩

/-- The members of a line, as ZZNewLineMembers leaves them. -/
def memCells (b0 b1 b2 b3 b4 b5 : Bool) : Array Value := #[.string ⟨#[]⟩, .int .i64 0, .string ⟨#[]⟩, .nilIface, .bool b0, .string ⟨#[]⟩, .int .i64 0, .string ⟨#[]⟩, .nilIface, .bool b1, .string ⟨#[]⟩, .int .i64 0, .string ⟨#[]⟩, .nilIface, .bool b2, .string ⟨#[]⟩, .int .i64 0, .string ⟨#[]⟩, .nilIface, .bool b3, .string ⟨#[]⟩, .int .i64 0, .string ⟨#[]⟩, .nilIface, .bool b4, .string ⟨#[]⟩, .int .i64 0, .string ⟨#[]⟩, .nilIface, .bool b5, .slice none 0 0, .slice none 0 0, .slice none 0 0, .slice none 0 0, .slice none 0 0, .slice none 0 0, .slice none 0 0, .slice none 0 0, .slice none 0 0, .slice none 0 0, .slice none 0 0, .slice none 0 0, .slice none 0 0, .slice none 0 0, .slice none 0 0, .slice none 0 0, .int .i64 0, .map none, .slice none 0 0, .slice none 0 0, .slice none 0 0]

theorem size1 (w : World) (o : Obj) : (w.alloc o).heap.size = w.heap.size + 1 := by simp
theorem nth1 (w : World) (o1 o2 : Obj) : ((w.alloc o1).alloc o2).heap[w.heap.size + 1]? = some o2 := by
  have h := heap_alloc_new (w.alloc o1) o2
  rwa [size1] at h

set_option maxRecDepth 100000 in
set_option maxHeartbeats 2000000 in
theorem newMembers (b0 b1 b2 b3 b4 b5 : Bool) (w : World) :
    Calls Try.prog 23 #[.agg #[.bool b0, .bool b1, .bool b2, .bool b3, .bool b4, .bool b5]] w fun e w' => ∃ mb, e = .returned (.pointer (some ⟨mb, 0, none⟩)) ∧ w'.heap[mb]? = some (.cells (memCells b0 b1 b2 b3 b4 b5) 112 (0, 0)) ∧ w.heap.size ≤ mb ∧ Below w.heap.size w w' := by
  go_enter Try.func23, Try.ntmps23
  go_wp2
  go_region
  go_wp2
  go_region
  go_wp2
  go_region
  go_wp2
  go_region
  go_wp2
  go_region
  go_wp2
  go_region
  go_wp2
  go_ret
  exact ⟨w.heap.size + 1, rfl, nth1 _ _ _, by omega, (((((((Below.refl _ w).alloc (Nat.le_refl _) _).alloc (by simp) _).drew).drew).drew).drew).drew.drew⟩
end Go.Proofs.Qxb6616519a
