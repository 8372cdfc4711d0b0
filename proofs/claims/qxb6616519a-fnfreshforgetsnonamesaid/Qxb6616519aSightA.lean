/-
  The script of calls: what is known of it; its zzBytes.
-/
import Derived.Test.Qxb6616519aFresh
namespace Go.Proofs.Qxb6616519a
open Go.RowKit Go.Maps

/-- The calls' cells: name and member of each. -/
def Script (w : World) (a : Option Addr) (n : Nat) (A : Nat → Option Addr) (L C : Nat → Nat) (K : Nat → Int) : Prop :=
  0 < n → ∃ b off, a = some ⟨b, off, none⟩ ∧ b < w.heap.size ∧ ∀ j, j < n → w.cell? ⟨b, off + j * 2, none⟩ = some (.slice (A j) (L j) (C j)) ∧ w.cell? ⟨b, off + j * 2 + 1, none⟩ = some (.int .i64 (K j))

theorem Script.below {w w' : World} {B n : Nat} {a : Option Addr} {A : Nat → Option Addr} {L C : Nat → Nat} {K : Nat → Int} (h : Script w a n A L C K) (hB : w.heap.size ≤ B) (hb : Below B w w') : Script w' a n A L C K := by
  intro hn
  obtain ⟨b, off, e, hlt, hc⟩ := h hn
  have hlt' : b < B := by omega
  exact ⟨b, off, e, Nat.lt_of_lt_of_le hlt hb.size, fun j hj => ⟨(hb.cell (by exact hlt')).trans (hc j hj).1, (hb.cell (by exact hlt')).trans (hc j hj).2⟩⟩

set_option maxRecDepth 100000 in
set_option maxHeartbeats 1000000 in
theorem zzBytes_any (b0 b1 b2 b3 b4 b5 : Bool) (a : Option Addr) (n c : Nat) (A : Nat → Option Addr) (L C : Nat → Nat) (K : Nat → Int) (w : World) (hn : n ≤ maxLen) (hs : ∀ j, j < n → L j ≤ maxLen) (hl : Script w a n A L C K) :
    Calls Try.prog 21 #[.agg #[.bool b0, .bool b1, .bool b2, .bool b3, .bool b4, .bool b5], .slice a n c] w fun e w' => ∃ t, e = .returned (.bool t) ∧ Below w.heap.size w w' ∧ (t = true → ∀ j, j < n → L j ≤ 1048576) := by
  have hn' : n ≤ 9223372036854775807 := by unfold maxLen at hn; omega
  have hl0 : Script (w.alloc (.cells #[.bool b0, .bool b1, .bool b2, .bool b3, .bool b4, .bool b5] 37)) a n A L C K := hl.below (Nat.le_refl _) ((Below.refl _ w).alloc (Nat.le_refl _) _)
  have hbel := (Below.refl w.heap.size w).alloc (Nat.le_refl _) (.cells #[.bool b0, .bool b1, .bool b2, .bool b3, .bool b4, .bool b5] 37)
  have HL := (show Hid _ from hl0)
  have HS := (show Hid _ from hs)
  clear hl hl0 hs hn
  by_cases h : n ≤ 1048576
  · have h1 : ¬ (1048576 : Int) < (n : Int) := by omega
    go_enter Try.func21, Try.ntmps21
    go_wp2
    generalize w.alloc (.cells #[.bool b0, .bool b1, .bool b2, .bool b3, .bool b4, .bool b5] 37) = w0 at *
    go_loopw [5, 6] (fun z c wr => ∃ (k t : Nat), z = .int .i64 t ∧ c = .int .i64 k ∧ k ≤ n ∧ t ≤ 1048576 ∧ w0 = wr ∧ Hid (∀ j, j < k → L j ≤ 1048576)) (fun _ c _ => n - (intOf c).toNat)
    case atStart => exact ⟨0, n, rfl, rfl, Nat.zero_le _, h, rfl, fun j h => by omega⟩
    case round =>
      obtain ⟨k, t, rfl, rfl, hk, ht, rfl, HB⟩ := hrel
      by_cases hlt : k < n
      · obtain ⟨bk, off, rfl, hb, hcell⟩ := HL.out (by omega)
        have hc := (hcell k hlt).1
        have hsz := HS.out k hlt
        clear hcell
        obtain ⟨x, hxk⟩ : ∃ x, A k = x := ⟨_, rfl⟩
        obtain ⟨y, hyk⟩ : ∃ y, C k = y := ⟨_, rfl⟩
        obtain ⟨s, hsk⟩ : ∃ s, L k = s := ⟨_, rfl⟩
        rw [hsk, hxk, hyk] at hc
        rw [hsk] at hsz
        have HF : Hid (L k = s) := hsk
        clear hsk hxk hyk
        unfold maxLen at hsz
        have hlt' : (k : Int) < (n : Int) := by omega
        by_cases hz1 : s ≤ 1048576
        · have hz1' : (s : Int) ≤ 1048576 := by omega
          by_cases hz2 : t + s ≤ 1048576
          · have hz2' : (t : Int) + (s : Int) ≤ 1048576 := by omega
            go_wp2
            go_roundw
            case rel => exact ⟨k + 1, t + s, by simp, rfl, by omega, hz2, trivial, fun j hj => by
              rcases Nat.lt_or_ge j k with h | h
              · exact HB.out j h
              · obtain rfl : j = k := by omega
                rw [HF.out]; exact hz1⟩
            case measure => simp [intOf]; omega
          · have hz2' : 1048576 < (t : Int) + (s : Int) := by omega
            go_wp2
            go_ret
            exact ⟨false, rfl, hbel, fun h => by cases h⟩
        · have hz1' : 1048576 < (s : Int) := by omega
          go_wp2
          go_ret
          exact ⟨false, rfl, hbel, fun h => by cases h⟩
      · obtain rfl : k = n := by omega
        go_wp2
        go_ret
        exact ⟨true, rfl, hbel, fun _ => HB.out⟩
  · have h1 : (1048576 : Int) < (n : Int) := by omega
    go_enter Try.func21, Try.ntmps21
    go_wp2
    go_ret
    exact ⟨false, rfl, hbel, fun h => by cases h⟩

theorem info40 : (Try.prog.info? 40).map (fun i => (i.zero, i.size, i.bytes)) = some (some (.slice none 0 0), 1, 24) := by kernel_rfl
theorem make40 (W : World) (n : Nat) (hn : n ≤ 4096) : (Instr.makeSlice 43 (.int .i64 n) (.int .i64 n)).run Try.prog W = .ok (.slice (some ⟨W.heap.size, 0, none⟩) n n) (W.alloc (.cells (madeCells #[.slice none 0 0] n) 40)) := by
  obtain ⟨i, hi, hz, hs, hb⟩ := info_parts info40
  have h := run_make (P := Try.prog) W 43 40 i (.slice none 0 0) Try.underlying43 hi hz .i64 .i64 n n (by omega) (Int.le_refl _) (by rw [hb]; omega) (by omega)
  simpa [hs, Value.cells] using h

/-- The row of clones: the first i are laid; each clone lies behind the row. -/
def Clones (w : World) (rb n i : Nat) (L : Nat → Nat) (X : Nat → List Int) : Prop :=
  ∃ xs : Array Value, w.heap[rb]? = some (.cells xs 40 (0, 0)) ∧ xs.size = n ∧ ∀ j, j < i → ∃ a c, xs[j]? = some (.slice a (L j) c) ∧ BytesAt w w.heap.size a (L j) (X j) ∧ ∀ b off, a = some ⟨b, off, none⟩ → rb < b

theorem clones_start (w : World) (n : Nat) (L : Nat → Nat) (X : Nat → List Int) : Clones (w.alloc (.cells (madeCells #[.slice none 0 0] n) 40)) w.heap.size n 0 L X :=
  ⟨_, heap_alloc_new w _, size_madeCells _ _, fun j hj => by omega⟩

/-- Behind 'names[i] = cloneBytes(..)'. -/
theorem clones_add {w w' : World} {rb n i c : Nat} {a : Option Addr} {L : Nat → Nat} {X : Nat → List Int} (h : Clones w rb n i L X) (hi : i < n) (hb : Below w.heap.size w w') (hx : BytesAt w' w'.heap.size a (L i) (X i)) (hlow : ∀ b off, a = some ⟨b, off, none⟩ → w.heap.size ≤ b) :
    Clones (w'.setCell ⟨rb, i, none⟩ (.slice a (L i) c)) rb n (i + 1) L X := by
  obtain ⟨xs, h1, h2, h3⟩ := h
  have hlt := lt_of_block h1
  have h1' : w'.heap[rb]? = some (.cells xs 40 (0, 0)) := by rw [hb.block rb hlt]; exact h1
  have key : ∀ a' j, BytesAt w' w'.heap.size a' (L j) (X j) → (∀ b off, a' = some ⟨b, off, none⟩ → rb < b) → BytesAt (w'.setCell ⟨rb, i, none⟩ (.slice a (L i) c)) (w'.setCell ⟨rb, i, none⟩ (.slice a (L i) c)).heap.size a' (L j) (X j) := by
    intro a' j hbt hlow'
    refine ⟨hbt.1, hbt.2.1, fun hn => ?_⟩
    obtain ⟨b, off, e, hlt', hc⟩ := hbt.2.2 hn
    refine ⟨b, off, e, by simpa using hlt', fun q hq => ?_⟩
    have hne := hlow' b off e
    rw [World.cell?_of_block (w := w') (Below.heap_setCell _ _ _ _ (by simp; omega))]
    exact hc q hq
  refine ⟨_, heap_setCell_same w' rb i xs 40 _ h1', by simpa using h2, fun j hj => ?_⟩
  rcases Nat.lt_or_ge j i with hji | hji
  · obtain ⟨a', c', e1, e2, e3⟩ := h3 j hji
    exact ⟨a', c', by rw [Array.getElem?_setIfInBounds_ne (by omega)]; exact e1, key a' j ((e2.below (Nat.le_refl _) hb).mono hb.size) e3, e3⟩
  · obtain rfl : j = i := by omega
    exact ⟨a, c, by rw [Array.getElem?_setIfInBounds_self_of_lt (by omega)], key a j hx (fun b off e => by have := hlow b off e; omega), fun b off e => by have := hlow b off e; omega⟩
end Go.Proofs.Qxb6616519a
