/-
  The slice of names: what is known of it; its zzBytes; lessBytes; the row 'order'.
-/
import Derived.Test.Qxb6616519aSightA
import Derived.Test.Qxb6616519aOrder
namespace Go.Proofs.Qxb6616519a
open Go.RowKit Go.Maps

/-- The names' cells, in a block below M. -/
def Names (w : World) (M : Nat) (a : Option Addr) (n : Nat) (A : Nat → Option Addr) (L C : Nat → Nat) : Prop :=
  0 < n → ∃ b off, a = some ⟨b, off, none⟩ ∧ b < M ∧ ∀ j, j < n → w.cell? ⟨b, off + j, none⟩ = some (.slice (A j) (L j) (C j))
theorem Names.below {w w' : World} {M B n : Nat} {a : Option Addr} {A : Nat → Option Addr} {L C : Nat → Nat} (h : Names w M a n A L C) (hB : M ≤ B) (hb : Below B w w') : Names w' M a n A L C := by
  intro hn
  obtain ⟨b, off, e, hlt, hc⟩ := h hn
  have hlt' : b < B := by omega
  exact ⟨b, off, e, hlt, fun j hj => (hb.cell (by exact hlt')).trans (hc j hj)⟩

set_option maxRecDepth 100000 in
set_option maxHeartbeats 1000000 in
theorem zzNames_any (a : Option Addr) (n c : Nat) (A : Nat → Option Addr) (L C : Nat → Nat) (w : World) (hn : n ≤ maxLen) (hs : ∀ j, j < n → L j ≤ maxLen) (hl : Names w w.heap.size a n A L C) :
    Calls Try.prog 26 #[.slice a n c] w fun e w' => ∃ t, e = .returned (.bool t) ∧ w = w' ∧ (t = true → ∀ j, j < n → L j ≤ 1048576) := by
  have hn' : n ≤ 9223372036854775807 := by unfold maxLen at hn; omega
  have HL := (show Hid _ from hl)
  have HS := (show Hid _ from hs)
  clear hl hs hn
  by_cases h : n ≤ 1048576
  · have h1 : ¬ (1048576 : Int) < (n : Int) := by omega
    go_enter Try.func26, Try.ntmps26
    go_wp2
    go_loopw [3, 4] (fun z c wr => ∃ (k t : Nat), z = .int .i64 t ∧ c = .int .i64 k ∧ k ≤ n ∧ t ≤ 1048576 ∧ w = wr ∧ Hid (∀ j, j < k → L j ≤ 1048576)) (fun _ c _ => n - (intOf c).toNat)
    case atStart => exact ⟨0, n, rfl, rfl, Nat.zero_le _, h, rfl, fun j h => by omega⟩
    case round =>
      obtain ⟨k, t, rfl, rfl, hk, ht, rfl, HB⟩ := hrel
      by_cases hlt : k < n
      · obtain ⟨bk, off, rfl, hb, hcell⟩ := HL.out (by omega)
        have hc := hcell k hlt
        have hsz := HS.out k hlt
        clear hcell
        obtain ⟨x, hxk⟩ : ∃ x, A k = x := ⟨_, rfl⟩
        obtain ⟨y, hyk⟩ : ∃ y, C k = y := ⟨_, rfl⟩
        obtain ⟨s, hsk⟩ : ∃ s, L k = s := ⟨_, rfl⟩
        rw [hsk, hxk, hyk] at hc
        rw [hsk] at hsz
        have HF : Hid (L k = s) := hsk
        clear hsk hxk hyk
        unfold maxLen at hsz
        have hlt' : (k : Int) < (n : Int) := by omega
        by_cases hz1 : s ≤ 1048576
        · have hz1' : (s : Int) ≤ 1048576 := by omega
          by_cases hz2 : t + s ≤ 1048576
          · have hz2' : (t : Int) + (s : Int) ≤ 1048576 := by omega
            go_wp2
            go_roundw
            case rel => exact ⟨k + 1, t + s, by simp, rfl, by omega, hz2, trivial, fun j hj => by
              rcases Nat.lt_or_ge j k with h | h
              · exact HB.out j h
              · obtain rfl : j = k := by omega
                rw [HF.out]; exact hz1⟩
            case measure => simp [intOf]; omega
          · have hz2' : 1048576 < (t : Int) + (s : Int) := by omega
            go_wp2
            go_ret
            exact ⟨false, rfl, rfl, fun h => by cases h⟩
        · have hz1' : 1048576 < (s : Int) := by omega
          go_wp2
          go_ret
          exact ⟨false, rfl, rfl, fun h => by cases h⟩
      · obtain rfl : k = n := by omega
        go_wp2
        go_ret
        exact ⟨true, rfl, rfl, fun _ => HB.out⟩
  · have h1 : (1048576 : Int) < (n : Int) := by omega
    go_enter Try.func26, Try.ntmps26
    go_wp2
    go_ret
    exact ⟨false, rfl, rfl, fun h => by cases h⟩


set_option maxHeartbeats 1000000 in
theorem less_any (a1 a2 : Option Addr) (n1 n2 c1 c2 M : Nat) (xs ys : List Int) (w : World) (hn1 : n1 ≤ 1048576) (hn2 : n2 ≤ 1048576) (h1 : BytesAt w M a1 n1 xs) (h2 : BytesAt w M a2 n2 ys) :
    Calls Try.prog 27 #[.slice a1 n1 c1, .slice a2 n2 c2] w fun e w' => e = .returned (.bool (lt xs ys)) ∧ ∃ q, w' = w.drewN q := by
  have H1 : Hid (BytesAt w M a1 n1 xs) := h1
  have H2 : Hid (BytesAt w M a2 n2 ys) := h2
  clear h1 h2
  go_enter Try.func27, Try.ntmps27
  go_wp2
  go_loopw [5] (fun c wr => ∃ k : Nat, c = .int .i64 k ∧ k ≤ n1 ∧ k ≤ n2 ∧ Hid (∃ q, wr = w.drewN q) ∧ Hid (∀ j, j < k → xs.getD j 0 = ys.getD j 0)) (fun c _ => n1 - (intOf c).toNat)
  case atStart => exact ⟨0, rfl, Nat.zero_le _, Nat.zero_le _, ⟨0, rfl⟩, fun j h => by omega⟩
  case round =>
    obtain ⟨k, rfl, hk1, hk2, HW, HE⟩ := hrel
    by_cases hl1 : k < n1
    · have hl1' : (k : Int) < (n1 : Int) := by omega
      by_cases hl2 : k < n2
      · have hl2' : (k : Int) < (n2 : Int) := by omega
        obtain ⟨b1, o1, rfl, hb1, hc1⟩ := H1.out.2.2 (by omega)
        obtain ⟨b2, o2, rfl, hb2, hc2⟩ := H2.out.2.2 (by omega)
        have g1 : wr.cell? ⟨b1, o1 + k, none⟩ = some (.int .u8 (xs.getD k 0)) := by obtain ⟨q, rfl⟩ := HW.out; exact hc1 k hl1
        have g2 : wr.cell? ⟨b2, o2 + k, none⟩ = some (.int .u8 (ys.getD k 0)) := by obtain ⟨q, rfl⟩ := HW.out; exact hc2 k hl2
        clear hc1 hc2
        obtain ⟨x, hx⟩ : ∃ x, xs.getD k 0 = x := ⟨_, rfl⟩
        obtain ⟨y, hy⟩ : ∃ y, ys.getD k 0 = y := ⟨_, rfl⟩
        rw [hx] at g1
        rw [hy] at g2
        have HX : Hid (xs.getD k 0 = x) := hx
        have HY : Hid (ys.getD k 0 = y) := hy
        clear hx hy
        cases hxy : (x != y) with
        | true =>
          have hres : Hid (lt xs ys = decide (x < y)) := by
            have hne : x ≠ y := by simpa using hxy
            have := lt_at k xs ys (by rw [H1.out.1]; exact hl1) (by rw [H2.out.1]; exact hl2) HE.out (by rw [HX.out, HY.out]; exact hne)
            rw [HX.out, HY.out] at this
            exact this
          go_wp2
          go_quiet (fail)
          go_wp2
          go_quiet (fail)
          go_wp2
          go_ret
          refine ⟨by rw [hres.out]; rfl, ?_⟩
          obtain ⟨q, rfl⟩ := HW.out
          exact ⟨_, by rw [World.drewN_drewN, World.drewN_drewN]⟩
        | false =>
          go_wp2
          go_quiet (fail)
          go_wp2
          go_roundw
          case rel =>
            refine ⟨k + 1, by simp, by omega, by omega, ?_, fun j hj => ?_⟩
            · obtain ⟨q, rfl⟩ := HW.out
              exact ⟨_, World.drewN_drewN _ _ _⟩
            · rcases Nat.lt_or_ge j k with h | h
              · exact HE.out j h
              · obtain rfl : j = k := by omega
                rw [HX.out, HY.out]
                simpa using hxy
          case measure => simp [intOf]; omega
      · have hl2' : ¬ (k : Int) < (n2 : Int) := by omega
        have hres : Hid (lt xs ys = decide (n1 < n2)) := by
          have := lt_end xs ys fun j e1 e2 => HE.out j (by rw [H2.out.1] at e2; omega)
          rw [H1.out.1, H2.out.1] at this
          exact this
        go_wp2
        go_ret
        exact ⟨by rw [hres.out]; rfl, HW.out⟩
    · have hl1' : ¬ (k : Int) < (n1 : Int) := by omega
      have hres : Hid (lt xs ys = decide (n1 < n2)) := by
        have := lt_end xs ys fun j e1 e2 => HE.out j (by rw [H1.out.1] at e1; omega)
        rw [H1.out.1, H2.out.1] at this
        exact this
      go_wp2
      go_ret
      exact ⟨by rw [hres.out]; rfl, HW.out⟩

/-- The row 'order': at place k the name with the number P k. -/
def Ord (w : World) (rb n : Nat) (A : Nat → Option Addr) (L C : Nat → Nat) (P : Nat → Nat) : Prop :=
  ∃ xs : Array Value, w.heap[rb]? = some (.cells xs 40 (0, 0)) ∧ xs.size = n ∧ ∀ k, k < n → xs[k]? = some (.slice (A (P k)) (L (P k)) (C (P k)))

theorem Ord.cell {w : World} {rb n : Nat} {A : Nat → Option Addr} {L C : Nat → Nat} {P : Nat → Nat} (h : Ord w rb n A L C P) {k : Nat} (hk : k < n) : w.cell? ⟨rb, k, none⟩ = some (.slice (A (P k)) (L (P k)) (C (P k))) ∧ w.frozen? ⟨rb, k, none⟩ = false := by
  obtain ⟨xs, h1, h2, h3⟩ := h
  exact ⟨at_cell h1 (h3 k hk), at_frozen h1⟩
/-- One element stored. -/
theorem Ord.set {w : World} {rb n : Nat} {A : Nat → Option Addr} {L C : Nat → Nat} {P Q : Nat → Nat} (h : Ord w rb n A L C P) {j m : Nat} (hj : j < n) (hm : Q j = m) (hQ : ∀ k, k < n → k ≠ j → Q k = P k) : Ord (w.setCell ⟨rb, j, none⟩ (.slice (A m) (L m) (C m))) rb n A L C Q := by
  obtain ⟨xs, h1, h2, h3⟩ := h
  refine ⟨_, heap_setCell_same w rb j xs 40 _ h1, by simpa using h2, fun k hk => ?_⟩
  by_cases e : k = j
  · subst e
    rw [Array.getElem?_setIfInBounds_self_of_lt (by omega), hm]
  · rw [Array.getElem?_setIfInBounds_ne (fun e' => e e'.symm), hQ k hk e]
    exact h3 k hk

/-- The row 'order' while it is filled. -/
def Fill (w : World) (rb n i : Nat) (A : Nat → Option Addr) (L C : Nat → Nat) : Prop :=
  ∃ xs : Array Value, w.heap[rb]? = some (.cells xs 40 (0, 0)) ∧ xs.size = n ∧ ∀ k, k < i → xs[k]? = some (.slice (A k) (L k) (C k))
theorem fill_start (w : World) (n : Nat) (A : Nat → Option Addr) (L C : Nat → Nat) : Fill (w.alloc (.cells (madeCells #[.slice none 0 0] n) 40)) w.heap.size n 0 A L C :=
  ⟨_, heap_alloc_new w _, size_madeCells _ _, fun k hk => by omega⟩
theorem Fill.add {w : World} {rb n i : Nat} {A : Nat → Option Addr} {L C : Nat → Nat} (h : Fill w rb n i A L C) (hi : i < n) : Fill (w.setCell ⟨rb, i, none⟩ (.slice (A i) (L i) (C i))) rb n (i + 1) A L C := by
  obtain ⟨xs, h1, h2, h3⟩ := h
  refine ⟨_, heap_setCell_same w rb i xs 40 _ h1, by simpa using h2, fun k hk => ?_⟩
  by_cases e : k = i
  · subst e
    rw [Array.getElem?_setIfInBounds_self_of_lt (by omega)]
  · rw [Array.getElem?_setIfInBounds_ne (fun e' => e e'.symm)]
    exact h3 k (by omega)
end Go.Proofs.Qxb6616519a
