/-
  THE LAW's WAYS OUT ahead of the first copy.
-/
import Derived.Test.Qxb6618293aLaw
namespace Go.Proofs.Qxb6618293a
open Go.RowKit Pl

set_option maxRecDepth 100000 in
/-- The slice is too long. -/
theorem early_len (a : Option Addr) (n c : Nat) (b x size cut : Int) (w : World) (hm : n ≤ maxLen) (h : 65536 < n) :
    Calls Try.prog 3 #[.slice a n c, .int .i64 b, .int .i64 x, .int .i64 size, .int .i64 cut] w fun e w' => e = .returned (.bool true) ∧ Below w.heap.size w w' := by
  have hm' := hm
  unfold maxLen at hm'
  by_cases h2 : n ≤ 1048576
  · have hzz : decide (n ≤ 1048576) = true := by simp; omega
    go_enter Try.func3, Try.ntmps3
    go_wp2_with fail
    refine (zzBytes' _ n c _ _ _ _ _ hm).mono ?_
    rintro e w' ⟨rfl, rfl⟩
    rw [hzz]
    go_wp2
    go_ret
    exact ⟨rfl, Below.refl _ _⟩
  · have hzz : decide (n ≤ 1048576) = false := by simp; omega
    go_enter Try.func3, Try.ntmps3
    go_wp2_with fail
    refine (zzBytes' _ n c _ _ _ _ _ hm).mono ?_
    rintro e w' ⟨rfl, rfl⟩
    rw [hzz]
    go_wp2
    go_ret
    exact ⟨rfl, Below.refl _ _⟩

set_option maxRecDepth 100000 in
theorem early_neg (a : Option Addr) (n c : Nat) (b x size cut : Int) (w : World) (hn : n ≤ 65536) (h : b < 0) :
    Calls Try.prog 3 #[.slice a n c, .int .i64 b, .int .i64 x, .int .i64 size, .int .i64 cut] w fun e w' => e = .returned (.bool true) ∧ Below w.heap.size w w' := by
  have hzz : decide (n ≤ 1048576) = true := by simp; omega
  go_enter Try.func3, Try.ntmps3
  go_wp2_with fail
  refine (zzBytes' _ n c _ _ _ _ _ (by unfold maxLen; omega)).mono ?_
  rintro e w' ⟨rfl, rfl⟩
  rw [hzz]
  go_wp2
  go_ret
  exact ⟨rfl, Below.refl _ _⟩

set_option maxRecDepth 100000 in
theorem early_many (a : Option Addr) (n c : Nat) (b x size cut : Int) (w : World) (hn : n ≤ 65536) (h : 524288 < b) :
    Calls Try.prog 3 #[.slice a n c, .int .i64 b, .int .i64 x, .int .i64 size, .int .i64 cut] w fun e w' => e = .returned (.bool true) ∧ Below w.heap.size w w' := by
  have hzz : decide (n ≤ 1048576) = true := by simp; omega
  have h0 : ¬ b < 0 := by omega
  go_enter Try.func3, Try.ntmps3
  go_wp2_with fail
  refine (zzBytes' _ n c _ _ _ _ _ (by unfold maxLen; omega)).mono ?_
  rintro e w' ⟨rfl, rfl⟩
  rw [hzz]
  go_wp2
  go_ret
  exact ⟨rfl, Below.refl _ _⟩

set_option maxRecDepth 100000 in
theorem early_size (a : Option Addr) (n c b : Nat) (x size cut : Int) (w : World) (hn : n ≤ 65536) (hb : b ≤ 524288) (h : 65536 < size) :
    Calls Try.prog 3 #[.slice a n c, .int .i64 b, .int .i64 x, .int .i64 size, .int .i64 cut] w fun e w' => e = .returned (.bool true) ∧ Below w.heap.size w w' := by
  have hzz : decide (n ≤ 1048576) = true := by simp; omega
  go_enter Try.func3, Try.ntmps3
  go_wp2_with fail
  refine (zzBytes' _ n c _ _ _ _ _ (by unfold maxLen; omega)).mono ?_
  rintro e w' ⟨rfl, rfl⟩
  rw [hzz]
  go_wp2
  go_ret
  exact ⟨rfl, Below.refl _ _⟩

set_option maxRecDepth 100000 in
theorem early_off (a : Option Addr) (n c b : Nat) (x size cut : Int) (w : World) (hn : n ≤ 65536) (hb : b ≤ 524288) (hs : size ≤ 65536) (h : n ≠ (b + 7) / 8) :
    Calls Try.prog 3 #[.slice a n c, .int .i64 b, .int .i64 x, .int .i64 size, .int .i64 cut] w fun e w' => e = .returned (.bool true) ∧ Below w.heap.size w w' := by
  have hzz : decide (n ≤ 1048576) = true := by simp; omega
  have h' : ((n : Int) != ((b : Int) + 7) / 8) = true := by rw [bne_iff_ne]; omega
  clear h
  go_enter Try.func3, Try.ntmps3
  go_wp2_with fail
  refine (zzBytes' _ n c _ _ _ _ _ (by unfold maxLen; omega)).mono ?_
  rintro e w' ⟨rfl, rfl⟩
  rw [hzz]
  go_wp2
  go_ret
  exact ⟨rfl, Below.refl _ _⟩

set_option maxHeartbeats 400000 in
set_option maxRecDepth 100000 in
theorem early_top (bk off n c b : Nat) (z x size cut : Int) (w : World) (hn : n ≤ 65536) (hb : b ≤ 524288) (hs : size ≤ 65536) (hnb : n = (b + 7) / 8) (h8 : b % 8 ≠ 0)
    (hcz : w.cell? ⟨bk, off + (n - 1), none⟩ = some (.int .u8 z)) (hz : z / 2 ^ (b % 8) ≠ 0) :
    Calls Try.prog 3 #[.slice (some ⟨bk, off, none⟩) n c, .int .i64 b, .int .i64 x, .int .i64 size, .int .i64 cut] w fun e w' => e = .returned (.bool true) ∧ Below w.heap.size w w' := by
  have hzz : decide (n ≤ 1048576) = true := by simp; omega
  have h8' : ((b : Int) % 8 != 0) = true := by rw [bne_iff_ne]; omega
  have hn1 : 0 < n := by omega
  have hnb1 : (n : Int) ≤ ((b : Int) + 7) / 8 := by omega
  have hnb2 : ((b : Int) + 7) / 8 ≤ (n : Int) := by omega
  have htop' : (z / 2 ^ (b % 8) != 0) = true := by rw [bne_iff_ne]; exact hz
  clear hnb h8 hz
  go_enter Try.func3, Try.ntmps3
  go_wp2_with fail
  refine (zzBytes' _ n c _ _ _ _ _ (by unfold maxLen; omega)).mono ?_
  rintro e w' ⟨rfl, rfl⟩
  rw [hzz]
  go_wp2
  go_ret
  exact ⟨rfl, Below.refl _ _⟩
end Go.Proofs.Qxb6618293a
