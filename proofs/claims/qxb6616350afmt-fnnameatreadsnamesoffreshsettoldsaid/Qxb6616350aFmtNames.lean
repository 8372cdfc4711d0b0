/-
  The slice of names: what is known of it; zzBytes; distinctNonEmpty.
-/
import Derived.Test.Qxb6616350aFmtSetup
namespace Go.Proofs.Qxb6616350aFmt
open Go.RowKit

/-- What is known of a slice of strings: its cells. -/
def Lies (w : World) (a : Option Addr) (n : Nat) (f : Nat → ByteArray) : Prop :=
  0 < n → ∃ b off, a = some ⟨b, off, none⟩ ∧ b < w.heap.size ∧ ∀ j, j < n → w.cell? ⟨b, off + j, none⟩ = some (.string (f j))

theorem below_drewN {B : Nat} {a w : World} (h : Below B a w) (n : Nat) : Below B a (w.drewN n) := h.trans ⟨rfl, rfl, rfl, Nat.le_refl _, fun _ _ => rfl⟩

set_option maxHeartbeats 1000000 in
theorem zzBytes_any (cap b v : Value) (a : Option Addr) (n c : Nat) (f : Nat → ByteArray) (w : World) (hn : n ≤ maxLen) (hs : ∀ j, j < n → (f j).size ≤ maxLen) (hl : Lies w a n f) :
    Calls Tryf.prog 4 #[cap, .slice a n c, b, v] w fun e w' => ∃ t, e = .returned (.bool t) ∧ w = w' ∧ (t = true → ∀ j, j < n → (f j).size ≤ 1048576) := by
  have hn' : n ≤ 9223372036854775807 := by unfold maxLen at hn; omega
  have HL := (show Hid _ from hl)
  have HS := (show Hid _ from hs)
  clear hl hs hn
  by_cases h : n ≤ 1048576
  · have h1 : ¬ (1048576 : Int) < (n : Int) := by omega
    go_enter Tryf.func4, Tryf.ntmps4
    go_wp2
    go_loopw [9, 10] (fun z c wr => ∃ (k t : Nat), z = .int .i64 t ∧ c = .int .i64 k ∧ k ≤ n ∧ t ≤ 1048576 ∧ w = wr ∧ Hid (∀ j, j < k → (f j).size ≤ 1048576)) (fun _ c _ => n - (intOf c).toNat)
    case atStart => exact ⟨0, n, rfl, rfl, Nat.zero_le _, h, rfl, fun j h => by omega⟩
    case round =>
      obtain ⟨k, t, rfl, rfl, hk, ht, rfl, HB⟩ := hrel
      by_cases hlt : k < n
      · obtain ⟨bk, off, rfl, hb, hcell⟩ := HL.out (by omega)
        have hc := hcell k hlt
        have hsz := HS.out k hlt
        clear hcell
        obtain ⟨s, hsk⟩ : ∃ s, f k = s := ⟨_, rfl⟩
        rw [hsk] at hc hsz
        have HF : Hid (f k = s) := hsk
        clear hsk
        unfold maxLen at hsz
        have hlt' : (k : Int) < (n : Int) := by omega
        by_cases hz1 : s.size ≤ 1048576
        · have hz1' : (s.size : Int) ≤ 1048576 := by omega
          by_cases hz2 : t + s.size ≤ 1048576
          · have hz2' : (t : Int) + (s.size : Int) ≤ 1048576 := by omega
            go_wp2
            go_roundw
            case rel => exact ⟨k + 1, t + s.size, by simp, rfl, by omega, hz2, trivial, fun j hj => by
              rcases Nat.lt_or_ge j k with h | h
              · exact HB.out j h
              · obtain rfl : j = k := by omega
                rw [HF.out]; exact hz1⟩
            case measure => simp [intOf]; omega
          · have hz2' : 1048576 < (t : Int) + (s.size : Int) := by omega
            go_wp2
            go_ret
            exact ⟨false, rfl, rfl, fun h => by cases h⟩
        · have hz1' : 1048576 < (s.size : Int) := by omega
          go_wp2
          go_ret
          exact ⟨false, rfl, rfl, fun h => by cases h⟩
      · obtain rfl : k = n := by omega
        go_wp2
        go_ret
        exact ⟨true, rfl, rfl, fun _ => HB.out⟩
  · have h1 : (1048576 : Int) < (n : Int) := by omega
    go_enter Tryf.func4, Tryf.ntmps4
    go_wp2
    go_ret
    exact ⟨false, rfl, rfl, fun h => by cases h⟩
end Go.Proofs.Qxb6616350aFmt
