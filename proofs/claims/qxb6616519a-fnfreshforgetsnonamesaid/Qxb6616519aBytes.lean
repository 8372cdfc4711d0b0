/-
  Slices of bytes on this road: what is known of one; cloneBytes, sameBytes, bytes.Equal.
-/
import Derived.Test.Qxb6616519aRows
import Derived.WalkKit
import Derived.WalkSpells
import Derived.ProofKit
import Derived.Below
import Derived.OneCell
import Derived.Laws.BytesArg
import Derived.Shelf.Bytes.SlSmallAll
import Derived.Lib.Bytes
import Derived.Deep.QuietTactic
import Derived.BigQuiet
import Derived.WalkSmall
namespace Go.Proofs.Qxb6616519a
open Go.RowKit

theorem below_drewN {B : Nat} {a w : World} (h : Below B a w) (n : Nat) : Below B a (w.drewN n) := h.trans ⟨rfl, rfl, rfl, Nat.le_refl _, fun _ _ => rfl⟩

/-- A slice of bytes: it has the elements xs, and they lie in a block below M. -/
def BytesAt (w : World) (M : Nat) (a : Option Addr) (n : Nat) (xs : List Int) : Prop :=
  xs.length = n ∧ (∀ x ∈ xs, 0 ≤ x ∧ x ≤ 255) ∧ (0 < n → ∃ b off, a = some ⟨b, off, none⟩ ∧ b < M ∧ ∀ j, j < n → w.cell? ⟨b, off + j, none⟩ = some (.int .u8 (xs.getD j 0)))

theorem BytesAt.below {w w' : World} {M B n : Nat} {a : Option Addr} {xs : List Int} (h : BytesAt w M a n xs) (hM : M ≤ B) (hb : Below B w w') : BytesAt w' M a n xs := by
  refine ⟨h.1, h.2.1, fun hn => ?_⟩
  obtain ⟨b, off, e, hlt, hc⟩ := h.2.2 hn
  exact ⟨b, off, e, hlt, fun j hj => (hb.cell (Nat.lt_of_lt_of_le hlt hM)).trans (hc j hj)⟩
theorem BytesAt.mono {w : World} {M M' n : Nat} {a : Option Addr} {xs : List Int} (h : BytesAt w M a n xs) (hM : M ≤ M') : BytesAt w M' a n xs := by
  refine ⟨h.1, h.2.1, fun hn => ?_⟩
  obtain ⟨b, off, e, hlt, hc⟩ := h.2.2 hn
  exact ⟨b, off, e, Nat.lt_of_lt_of_le hlt hM, hc⟩
theorem BytesAt.range {w : World} {M n : Nat} {a : Option Addr} {xs : List Int} (h : BytesAt w M a n xs) (j : Nat) : 0 ≤ xs.getD j 0 ∧ xs.getD j 0 ≤ 255 := by
  rcases Nat.lt_or_ge j xs.length with hj | hj
  · rw [List.getD_eq_getElem?_getD, List.getElem?_eq_getElem hj]
    exact h.2.1 _ (List.getElem_mem hj)
  · rw [List.getD_eq_getElem?_getD, List.getElem?_eq_none hj]
    decide

/-- 'string(b)'. -/
theorem BytesAt.conv {w : World} {M n : Nat} {a : Option Addr} {xs : List Int} (h : BytesAt w M a n xs) (c : Nat) : (convert 40 9 (.slice a n c)).run Try.prog w = .ok (.string (strOfNums xs)) w := by
  rcases Nat.eq_zero_or_pos n with h0 | h0
  · subst h0
    have hx : xs = [] := List.eq_nil_of_length_eq_zero h.1
    subst hx
    exact run_convert_bytes_zero w 40 5 Try.underlying40 Try.underlying5 a c 9 Try.underlying9
  · obtain ⟨b, off, rfl, hlt, hc⟩ := h.2.2 h0
    exact run_convert_bytes_arg w 40 5 Try.underlying40 Try.underlying5 b off n c xs h.1 hc 9 Try.underlying9

theorem bytesOf_inj : ∀ {xs ys : List Int}, (∀ x ∈ xs, 0 ≤ x ∧ x ≤ 255) → (∀ y ∈ ys, 0 ≤ y ∧ y ≤ 255) → Lib.bytesOf xs = Lib.bytesOf ys → xs = ys
  | [], [], _, _, _ => rfl
  | [], _ :: _, _, _, h => by simp [Lib.bytesOf] at h
  | _ :: _, [], _, _, h => by simp [Lib.bytesOf] at h
  | x :: xs, y :: ys, hx, hy, h => by
    simp only [Lib.bytesOf, List.map_cons, List.cons.injEq] at h
    have bx := hx x (by simp)
    have bz := hy y (by simp)
    have e : x = y := by
      have := congrArg UInt8.toNat h.1
      simp only [UInt8.toNat_ofNat'] at this
      omega
    rw [e, bytesOf_inj (fun z hz => hx z (by simp [hz])) (fun z hz => hy z (by simp [hz])) h.2]

theorem str_beq {xs ys : List Int} (hx : ∀ x ∈ xs, 0 ≤ x ∧ x ≤ 255) (hy : ∀ y ∈ ys, 0 ≤ y ∧ y ≤ 255) : ((strOfNums xs).toList == (strOfNums ys).toList) = decide (xs = ys) := by
  rw [Lib.strOfNums_toList, Lib.strOfNums_toList]
  by_cases h : xs = ys
  · subst h; simp
  · rw [decide_eq_false h, beq_eq_false_iff_ne]
    exact fun e => h (bytesOf_inj hx hy e)

theorem equal_any (a1 a2 : Option Addr) (n1 n2 c1 c2 M : Nat) (xs ys : List Int) (w : World) (h1 : BytesAt w M a1 n1 xs) (h2 : BytesAt w M a2 n2 ys) :
    Calls Try.prog 31 #[.slice a1 n1 c1, .slice a2 n2 c2] w fun e w' => e = .returned (.bool (decide (xs = ys))) ∧ w = w' := by
  have e1 := h1.conv c1
  have e2 := h2.conv c2
  have hb := str_beq h1.2.1 h2.2.1
  generalize strOfNums xs = s at *
  generalize strOfNums ys = t at *
  go_enter Try.func31, Try.ntmps31
  go_wp2
  go_ret
  exact ⟨by simp [← hb], rfl⟩

set_option maxHeartbeats 1000000 in
theorem same_any (a1 a2 : Option Addr) (n1 n2 c1 c2 M : Nat) (xs ys : List Int) (w : World) (hn1 : n1 ≤ 1048576) (hn2 : n2 ≤ 1048576) (h1 : BytesAt w M a1 n1 xs) (h2 : BytesAt w M a2 n2 ys) :
    Calls Try.prog 25 #[.slice a1 n1 c1, .slice a2 n2 c2] w fun e w' => e = .returned (.bool (decide (xs = ys))) ∧ ∃ q, w' = w.drewN q := by
  have H1 : Hid (BytesAt w M a1 n1 xs) := h1
  have H2 : Hid (BytesAt w M a2 n2 ys) := h2
  clear h1 h2
  by_cases hne : n1 = n2
  · subst hne
    have hbne : ((n1 : Int) != (n1 : Int)) = false := by simp
    go_enter Try.func25, Try.ntmps25
    go_wp2
    go_loopw [5] (fun c wr => ∃ k : Nat, c = .int .i64 k ∧ k ≤ n1 ∧ Hid (∃ q, wr = w.drewN q) ∧ Hid (∀ j, j < k → xs.getD j 0 = ys.getD j 0)) (fun c _ => n1 - (intOf c).toNat)
    case atStart => exact ⟨0, rfl, Nat.zero_le _, ⟨0, rfl⟩, fun j h => by omega⟩
    case round =>
      obtain ⟨k, rfl, hk, HW, HE⟩ := hrel
      by_cases hlt : k < n1
      · obtain ⟨b1, o1, rfl, hb1, hc1⟩ := H1.out.2.2 (by omega)
        obtain ⟨b2, o2, rfl, hb2, hc2⟩ := H2.out.2.2 (by omega)
        have g1 : wr.cell? ⟨b1, o1 + k, none⟩ = some (.int .u8 (xs.getD k 0)) := by obtain ⟨q, rfl⟩ := HW.out; exact hc1 k hlt
        have g2 : wr.cell? ⟨b2, o2 + k, none⟩ = some (.int .u8 (ys.getD k 0)) := by obtain ⟨q, rfl⟩ := HW.out; exact hc2 k hlt
        clear hc1 hc2
        obtain ⟨x, hx⟩ : ∃ x, xs.getD k 0 = x := ⟨_, rfl⟩
        obtain ⟨y, hy⟩ : ∃ y, ys.getD k 0 = y := ⟨_, rfl⟩
        rw [hx] at g1
        rw [hy] at g2
        have HX : Hid (xs.getD k 0 = x) := hx
        have HY : Hid (ys.getD k 0 = y) := hy
        clear hx hy
        have hlt' : (k : Int) < (n1 : Int) := by omega
        cases hxy : (x != y) with
        | true =>
          go_wp2
          go_quiet (fail)
          go_wp2
          go_ret
          refine ⟨?_, ?_⟩
          · have : xs ≠ ys := fun e => by
              have e1 := HX.out
              rw [e, HY.out] at e1
              simp [e1] at hxy
            simp [this]
          · obtain ⟨q, rfl⟩ := HW.out
            exact ⟨_, World.drewN_drewN _ _ _⟩
        | false =>
          go_wp2
          go_quiet (fail)
          go_wp2
          go_roundw
          case rel =>
            refine ⟨k + 1, rfl, by omega, ?_, fun j hj => ?_⟩
            · obtain ⟨q, rfl⟩ := HW.out
              exact ⟨_, World.drewN_drewN _ _ _⟩
            · rcases Nat.lt_or_ge j k with h | h
              · exact HE.out j h
              · obtain rfl : j = k := by omega
                rw [HX.out, HY.out]
                simpa using hxy
          case measure => simp [intOf]; omega
      · obtain rfl : k = n1 := by omega
        go_wp2
        go_ret
        refine ⟨?_, HW.out⟩
        have : xs = ys := by
          apply List.ext_getElem
          · rw [H1.out.1, H2.out.1]
          · intro j hj1 hj2
            have := HE.out j (by rw [← H1.out.1]; exact hj1)
            simpa [List.getD_eq_getElem?_getD, List.getElem?_eq_getElem hj1, List.getElem?_eq_getElem hj2] using this
        simp [this]
  · have hbne : ((n1 : Int) != (n2 : Int)) = true := by rw [bne_iff_ne]; omega
    have hxy : xs ≠ ys := fun e => hne (by rw [← H1.out.1, ← H2.out.1, e])
    go_enter Try.func25, Try.ntmps25
    go_wp2
    go_ret
    exact ⟨by simp [hxy], 0, rfl⟩
end Go.Proofs.Qxb6616519a
