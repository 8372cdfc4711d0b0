/-
  (*Anchor).setUp on the anchor inside a set; nameAt.
-/
import Derived.Test.Qxb6616350aFmtAtom
import Derived.Deep.QuietTactic
import Derived.BigQuiet
import Derived.BigRegion
import Derived.Deep.RegionWith
import Derived.WalkSmall
namespace Go.Proofs.Qxb6616350aFmt
open Go.RowKit

theorem info22 : (Tryf.prog.info? 22).map (fun i => (i.zero, i.size, i.bytes)) = some (some (.int .u32 0), 1, 4) := by kernel_rfl

theorem make22 (W : World) (n : Nat) (hn : n ≤ 4096) : (Instr.makeSlice 57 (.int .u32 n) (.int .u32 n)).run Tryf.prog W = .ok (.slice (some ⟨W.heap.size, 0, none⟩) n n) (W.alloc (.cells (madeCells #[.int .u32 0] n) 22)) := by
  obtain ⟨i, hi, hz, hs, hb⟩ := info_parts info22
  have h := run_make (P := Tryf.prog) W 57 22 i (.int .u32 0) Tryf.underlying57 hi hz .u32 .u32 n n (by omega) (Int.le_refl _) (by rw [hb]; omega) (by omega)
  simpa [hs, Value.cells] using h

theorem size1 (w : World) (o : Obj) : (w.alloc o).heap.size = w.heap.size + 1 := by simp
theorem new2 (w : World) (o o' o'' : Obj) : (((w.alloc o).alloc o').alloc o'').heap[w.heap.size + 1 + 1]? = some o'' := by
  have h := heap_alloc_new ((w.alloc o).alloc o') o''
  rwa [size1, size1] at h
theorem below3' (w : World) (o o' o'' : Obj) : Below w.heap.size w (((w.alloc o).alloc o').alloc o'') :=
  (((Below.refl _ w).alloc (Nat.le_refl _) _).alloc (by simp) _).alloc (by simp; omega) _
theorem below3 (w : World) (o o' o'' : Obj) : Below w.heap.size w (((w.alloc o).alloc o').alloc o'').drew :=
  ((((Below.refl _ w).alloc (Nat.le_refl _) _).alloc (by simp) _).alloc (by simp; omega) _).drew
theorem cell_new2 (w : World) (o o' : Obj) (v0 v1 v2 v3 : Value) : ((((w.alloc o).alloc o').alloc (.cells #[v0, v1, v2, v3] 91)).drew).cell? ⟨w.heap.size + 1 + 1, 0, none⟩ = some v0 := by
  have h := new2 w o o' (.cells #[v0, v1, v2, v3] 91)
  show (((w.alloc o).alloc o').alloc (.cells #[v0, v1, v2, v3] 91)).cell? ⟨w.heap.size + 1 + 1, 0, none⟩ = some v0
  simp only [World.cell?]
  rw [h]
  rfl

/-- What setUp leaves: the set's block has two cells turned; nothing else that was there has. -/
def Left (sb : Nat) (cs : Array Value) (w w' : World) : Prop :=
  (∀ k, k < w.heap.size → k ≠ sb → w'.heap[k]? = w.heap[k]?) ∧ (∃ p q, w'.heap[sb]? = some (.cells ((cs.setIfInBounds 4 p).setIfInBounds 3 q) 65 (0, 0))) ∧ w'.tape = w.tape ∧ w'.os = w.os ∧ w'.output = w.output ∧ w.heap.size ≤ w'.heap.size

theorem left_of {sb : Nat} {cs : Array Value} {w w1 : World} (p q : Value) (hb : w.heap[sb]? = some (.cells cs 65 (0, 0))) (h : Below w.heap.size w w1) : Left sb cs w ((w1.setCell ⟨sb, 4, none⟩ p).setCell ⟨sb, 3, none⟩ q) := by
  have hlt := lt_of_block hb
  have h1 : w1.heap[sb]? = some (.cells cs 65 (0, 0)) := by rw [h.block sb hlt]; exact hb
  refine ⟨fun k hk hne => ?_, ⟨p, q, ?_⟩, h.tape, h.os, h.output, by simpa using h.size⟩
  · rw [Below.heap_setCell _ _ _ _ (by simpa using hne), Below.heap_setCell _ _ _ _ (by simpa using hne)]
    exact h.block k hk
  · exact heap_setCell_same _ sb 3 _ 65 q (heap_setCell_same w1 sb 4 cs 65 p h1)

theorem cell_beside {w w1 : World} {sb : Nat} {u p : Value} (hlt : sb < w.heap.size) (h : Below w.heap.size w w1) (c : w.cell? ⟨sb, 3, none⟩ = some u) : ((w1.setCell ⟨sb, 4, none⟩ p).drew).cell? ⟨sb, 3, none⟩ = some u := by
  have h1 : w1.cell? ⟨sb, 3, none⟩ = some u := (h.cell hlt).trans c
  show (w1.setCell ⟨sb, 4, none⟩ p).cell? ⟨sb, 3, none⟩ = some u
  exact (World.cell?_setCell_other _ _ _ _ (by simp)).trans h1
theorem frozen_beside {w w1 : World} {sb : Nat} {p : Value} (hlt : sb < w.heap.size) (h : Below w.heap.size w w1) (c : w.frozen? ⟨sb, 3, none⟩ = false) : ((w1.setCell ⟨sb, 4, none⟩ p).drew).frozen? ⟨sb, 3, none⟩ = false := by
  have h1 : w1.frozen? ⟨sb, 3, none⟩ = false := (h.frozen hlt).trans c
  show (w1.setCell ⟨sb, 4, none⟩ p).frozen? ⟨sb, 3, none⟩ = false
  simpa using h1

set_option maxHeartbeats 1000000 in
theorem setUp (sb n : Nat) (cap : Int) (cs : Array Value) (w : World) (hn : n ≤ 4096) (hc0 : (cap == 0) = false) (hnc : (n : Int) ≤ cap)
    (hb : w.heap[sb]? = some (.cells cs 65 (0, 0))) (hcs : cs.size = 9) :
    Calls Tryf.prog 13 #[.pointer (some ⟨sb, 0, none⟩), .int .u32 cap, .int .u32 n] w fun e w' => e = .returned .nilIface ∧ Left sb cs w w' := by
  have hmk := fun W => make22 W n hn
  have hlt := lt_of_block hb
  obtain ⟨u4, h4⟩ : ∃ u, cs[4]? = some u := ⟨_, Array.getElem?_eq_getElem (by omega)⟩
  obtain ⟨u3, h3⟩ : ∃ u, cs[3]? = some u := ⟨_, Array.getElem?_eq_getElem (by omega)⟩
  have c4 : w.cell? ⟨sb, 4, none⟩ = some u4 := by simp [World.cell?, hb, h4]
  have f4 : w.frozen? ⟨sb, 4, none⟩ = false := by simp [World.frozen?, hb]
  have f3 : w.frozen? ⟨sb, 3, none⟩ = false := by simp [World.frozen?, hb]
  have c3 : w.cell? ⟨sb, 3, none⟩ = some u3 := by simp [World.cell?, hb, h3]
  clear h3 h4
  go_enter Tryf.func13, Tryf.ntmps13
  go_wp2
  go_region_with (go_at_call 21; refine (store_sta sb 4 _ u4 _ _ ((Below.cell (below3 _ _ _ _) hlt).trans c4) ((Below.frozen (below3 _ _ _ _) hlt).trans f4) (cell_new2 _ _ _ _ _ _ _)).mono ?_; rintro e w' ⟨rfl, rfl⟩)
  all_goals
    go_wp2_with fail
    refine (store_u32 sb 3 n u3 _ (cell_beside hlt (below3' _ _ _ _) c3) (frozen_beside hlt (below3' _ _ _ _) f3)).mono ?_
    rintro e w1 ⟨rfl, rfl⟩
    go_wp2
    go_ret
    exact ⟨rfl, left_of _ _ hb (below3' _ _ _ _)⟩

/-- What a fresh set holds, as nameAt reads it. -/
structure Fresh (w : World) (sb n : Nat) (f : Nat → ByteArray) (tb rb c : Nat) (xs : Array Value) : Prop where
  set8 : w.cell? ⟨sb, 8, none⟩ = some (.pointer (some ⟨tb, 0, none⟩))
  set2 : w.cell? ⟨sb, 2, none⟩ = some (.int .u64 0)
  tab : w.heap[tb]? = some (.cells #[.slice (some ⟨rb, 0, none⟩) n c] 68 (0, 0))
  row : w.heap[rb]? = some (.cells xs 74 (0, 0))
  names : ∀ j, j < n → ∃ g, xs[j]? = some (.pointer (some ⟨g, 0, none⟩)) ∧ w.heap[g]? = some (.cells #[.string (f j)] 9 (0, 0))

theorem one_cell {w : World} {b : Nat} {v : Value} {t : TypeId} (h : w.heap[b]? = some (.cells #[v] t (0, 0))) : w.cell? ⟨b, 0, none⟩ = some v := by
  simp only [World.cell?]
  rw [h]
  rfl

set_option maxHeartbeats 1000000 in
theorem nameAt_in (sb n : Nat) (f : Nat → ByteArray) (tb rb c : Nat) (xs : Array Value) (w : World) (b : Nat) (hn : n ≤ 4096) (hb : b < n) (h : Fresh w sb n f tb rb c xs) :
    Calls Tryf.prog 9 #[.pointer (some ⟨sb, 0, none⟩), .int .u32 b, .int .u64 0] w fun e w' => e = .returned (.tuple #[.string (f b), .bool true]) ∧ w = w' := by
  obtain ⟨g, hx, hg⟩ := h.names b hb
  have t0 := one_cell h.tab
  have g0 := one_cell hg
  have r0 : w.cell? ⟨rb, b, none⟩ = some (.pointer (some ⟨g, 0, none⟩)) := by simp only [World.cell?]; rw [h.row]; exact hx
  have hbn : (b : Int) < (n : Int) := by omega
  go_enter Tryf.func9, Tryf.ntmps9
  go_wp2_with fail
  refine (load_tab sb 8 tb _ _ h.set8 h.tab).mono ?_
  rintro e w1 ⟨rfl, rfl⟩
  go_wp2_with fail
  refine (load_str rb b g _ _ r0 hg).mono ?_
  rintro e w1 ⟨rfl, rfl⟩
  go_wp2_with fail
  refine (load_u64 sb 2 0 _ h.set2).mono ?_
  rintro e w1 ⟨rfl, rfl⟩
  go_wp2
  go_ret2
  exact ⟨rfl, rfl⟩

set_option maxHeartbeats 1000000 in
theorem nameAt_out (sb n : Nat) (f : Nat → ByteArray) (tb rb c : Nat) (xs : Array Value) (w : World) (b v : Int) (hn : n ≤ 4096) (hb : (n : Int) ≤ b) (h : Fresh w sb n f tb rb c xs) :
    Calls Tryf.prog 9 #[.pointer (some ⟨sb, 0, none⟩), .int .u32 b, .int .u64 v] w fun e w' => e = .returned (.tuple #[.string ⟨#[]⟩, .bool false]) ∧ w = w' := by
  have t0 := one_cell h.tab
  go_enter Tryf.func9, Tryf.ntmps9
  go_wp2_with fail
  refine (load_tab sb 8 tb _ _ h.set8 h.tab).mono ?_
  rintro e w1 ⟨rfl, rfl⟩
  go_wp2
  go_ret2
  exact ⟨rfl, rfl⟩

set_option maxHeartbeats 1000000 in
theorem nameAt_stale (sb n : Nat) (f : Nat → ByteArray) (tb rb c : Nat) (xs : Array Value) (w : World) (b : Nat) (v : Int) (hn : n ≤ 4096) (hb : b < n) (hv : ((0 : Int) != v) = true) (h : Fresh w sb n f tb rb c xs) :
    Calls Tryf.prog 9 #[.pointer (some ⟨sb, 0, none⟩), .int .u32 b, .int .u64 v] w fun e w' => e = .returned (.tuple #[.string ⟨#[]⟩, .bool false]) ∧ w = w' := by
  obtain ⟨g, hx, hg⟩ := h.names b hb
  have t0 := one_cell h.tab
  have r0 : w.cell? ⟨rb, b, none⟩ = some (.pointer (some ⟨g, 0, none⟩)) := by simp only [World.cell?]; rw [h.row]; exact hx
  have hbn : (b : Int) < (n : Int) := by omega
  go_enter Tryf.func9, Tryf.ntmps9
  go_wp2_with fail
  refine (load_tab sb 8 tb _ _ h.set8 h.tab).mono ?_
  rintro e w1 ⟨rfl, rfl⟩
  go_wp2_with fail
  refine (load_str rb b g _ _ r0 hg).mono ?_
  rintro e w1 ⟨rfl, rfl⟩
  go_wp2_with fail
  refine (load_u64 sb 2 0 _ h.set2).mono ?_
  rintro e w1 ⟨rfl, rfl⟩
  go_wp2
  go_ret2
  exact ⟨rfl, rfl⟩

/-- ZZnameAt hands nameAt's answer on. -/
theorem zznameAt (p b v : Value) (s : ByteArray) (t : Bool) (w : World) (h : Calls Tryf.prog 9 #[p, b, v] w fun e w' => e = .returned (.tuple #[.string s, .bool t]) ∧ w = w') :
    Calls Tryf.prog 7 #[p, b, v] w fun e w' => e = .returned (.tuple #[.string s, .bool t]) ∧ w = w' := by
  go_enter Tryf.func7, Tryf.ntmps7
  go_wp2_with fail
  refine h.mono ?_
  rintro e w1 ⟨rfl, rfl⟩
  go_wp2
  go_ret2
  exact ⟨rfl, rfl⟩
end Go.Proofs.Qxb6616350aFmt
