/-
  distinctNonEmpty.
-/
import Derived.Test.Qxb6616350aFmtNames
namespace Go.Proofs.Qxb6616350aFmt
open Go.RowKit

/-- The first k names: none empty, no two alike. -/
def Apart (f : Nat → ByteArray) (k : Nat) : Prop := ∀ i, i < k → (f i).toList.isEmpty = false ∧ ∀ j, j < i → f j ≠ f i

set_option maxHeartbeats 1000000 in
theorem distinct_any (a : Option Addr) (n c : Nat) (f : Nat → ByteArray) (w : World) (hn : n ≤ 4096) (hl : Lies w a n f) :
    Calls Tryf.prog 5 #[.slice a n c] w fun e w' => ∃ t, e = .returned (.bool t) ∧ (∃ q, w' = w.drewN q) ∧ (t = true → Apart f n) := by
  have HL := (show Hid _ from hl)
  clear hl
  go_enter Tryf.func5, Tryf.ntmps5
  go_wp2
  go_loopw [3] (fun c wr => ∃ k : Nat, c = .int .i64 k ∧ k ≤ n ∧ Hid (∃ q, wr = w.drewN q) ∧ Hid (Apart f k)) (fun c _ => n - (intOf c).toNat)
  case atStart => exact ⟨0, rfl, Nat.zero_le _, ⟨0, rfl⟩, fun j h => by omega⟩
  case round =>
    obtain ⟨k, rfl, hk, HW, HA⟩ := hrel
    by_cases hlt : k < n
    · obtain ⟨bk, off, rfl, hb, hcell⟩ := HL.out (by omega)
      have HC : Hid (∀ j, j < n → w.cell? ⟨bk, off + j, none⟩ = some (.string (f j))) := hcell
      clear hcell
      have hc : wr.cell? ⟨bk, off + k, none⟩ = some (.string (f k)) := by obtain ⟨q, rfl⟩ := HW.out; exact HC.out k hlt
      obtain ⟨s, hsk⟩ : ∃ s, f k = s := ⟨_, rfl⟩
      rw [hsk] at hc
      have HF : Hid (f k = s) := hsk
      clear hsk
      have hlt' : (k : Int) < (n : Int) := by omega
      cases hemp : s.toList.isEmpty with
      | true =>
        go_wp2
        go_ret
        exact ⟨false, rfl, HW.out, fun h => by cases h⟩
      | false =>
        go_wp2
        go_loopw [4] (fun c w2 => ∃ j : Nat, c = .int .i64 j ∧ j ≤ k ∧ Hid (∃ q, w2 = w.drewN q) ∧ Hid (∀ i, i < j → f i ≠ f k)) (fun c _ => k - (intOf c).toNat)
        case atStart => exact ⟨0, rfl, Nat.zero_le _, HW, fun j h => by omega⟩
        case round =>
          clear hc
          obtain ⟨j, rfl, hj, HW2, HD⟩ := hrel
          by_cases hjk : j < k
          · have hc1 : wr.cell? ⟨bk, off + k, none⟩ = some (.string (f k)) := by obtain ⟨q, rfl⟩ := HW2.out; exact HC.out k hlt
            have hc2 : wr.cell? ⟨bk, off + j, none⟩ = some (.string (f j)) := by obtain ⟨q, rfl⟩ := HW2.out; exact HC.out j (by omega)
            rw [HF.out] at hc1
            obtain ⟨s2, hsj⟩ : ∃ s2, f j = s2 := ⟨_, rfl⟩
            rw [hsj] at hc2
            have HG : Hid (f j = s2) := hsj
            clear hsj
            have hjk' : (j : Int) < (k : Int) := by omega
            have hjn' : (j : Int) < (n : Int) := by omega
            cases heq : (s2.toList == s.toList) with
            | true =>
              go_wp2
              go_quiet (fail)
              go_wp2
              go_ret
              refine ⟨false, rfl, ?_, fun h => by cases h⟩
              obtain ⟨q, rfl⟩ := HW2.out
              exact ⟨_, World.drewN_drewN _ _ _⟩
            | false =>
              go_wp2
              go_quiet (fail)
              go_wp2
              go_roundw
              case rel =>
                refine ⟨j + 1, rfl, by omega, ?_, fun i hi => ?_⟩
                · obtain ⟨q, rfl⟩ := HW2.out
                  exact ⟨_, World.drewN_drewN _ _ _⟩
                · rcases Nat.lt_or_ge i j with h | h
                  · exact HD.out i h
                  · obtain rfl : i = j := by omega
                    rw [HG.out, HF.out]
                    intro e
                    rw [e] at heq
                    simp at heq
              case measure => simp [intOf]; omega
          · obtain rfl : j = k := by omega
            go_wp2
            go_roundw
            case rel =>
              refine ⟨j + 1, rfl, by omega, HW2, fun i hi => ?_⟩
              rcases Nat.lt_or_ge i j with h | h
              · exact HA.out i h
              · obtain rfl : i = j := by omega
                exact ⟨by rw [HF.out]; exact hemp, HD.out⟩
            case measure => simp [intOf]; omega
    · obtain rfl : k = n := by omega
      go_wp2
      go_ret
      exact ⟨true, rfl, HW.out, fun _ => HA.out⟩
end Go.Proofs.Qxb6616350aFmt
