/-
  THE WALKS of nassec.estimate and ZZestimate at eight bits.
-/
import Derived.Test.Qxb6616321aFmtTake
namespace Go.Proofs.Qxb6616321aFmt
open Go.RowKit Go.Extern.Stop Go.Stop Go.Extern

theorem and_hi (x : Nat) (hx : x < 4294967296) : x &&& 4294967040 = 2 ^ 8 * (x / 256) := by
  apply Nat.eq_of_testBit_eq
  intro i
  rw [Nat.testBit_and, show (4294967040 : Nat) = 2 ^ 8 * (2 ^ 24 - 1) by decide, Nat.testBit_two_pow_mul, Nat.testBit_two_pow_mul, Nat.testBit_two_pow_sub_one, show x / 256 = x / 2 ^ 8 by rfl, Nat.testBit_div_two_pow]
  rcases Nat.lt_or_ge i 8 with h | h
  · simp [show ¬ 8 ≤ i by omega]
  · rw [show i - 8 + 8 = i by omega]
    rcases Nat.lt_or_ge i 32 with h' | h'
    · simp [h, show i - 8 < 24 by omega]
    · have : x.testBit i = false := Nat.testBit_lt_two_pow (Nat.lt_of_lt_of_le hx (by
        have : 2 ^ 32 ≤ 2 ^ i := Nat.pow_le_pow_right (by omega) h'
        simpa using this))
      simp [this]

theorem wrap_u32_small (n : Int) (h0 : 0 ≤ n) (h1 : n < 4294967296) : IntKind.u32.wrap n = n := by
  rw [IntKind.wrap_u32]; omega
theorem ofInt_nat (x : Int) (h0 : 0 ≤ x) (hx : x < 4294967296) : (BitVec.ofInt 32 x).toNat = x.toNat := by
  rw [BitVec.toNat_ofInt]; omega

theorem u32_andNot255 (x : Int) (h0 : 0 ≤ x) (hx : x < 4294967296) : bits .andNot .u32 x 255 = x - x % 256 := by
  show IntKind.u32.wrap ((BitVec.ofInt 32 x &&& ~~~BitVec.ofInt 32 255).toNat : Int) = _
  have h1 : (BitVec.ofInt 32 255).toNat = 255 := by decide
  rw [BitVec.toNat_and, BitVec.toNat_not, ofInt_nat x h0 hx, h1, show 2 ^ 32 - 1 - 255 = 4294967040 by decide, and_hi x.toNat (by omega)]
  rw [wrap_u32_small _ (by omega) (by omega)]
  omega
theorem u32_and255 (y : Int) (h0 : 0 ≤ y) (hy : y ≤ 255) : bits .and .u32 y 255 = y := by
  show IntKind.u32.wrap ((BitVec.ofInt 32 y &&& BitVec.ofInt 32 255).toNat : Int) = _
  have h1 : (BitVec.ofInt 32 255).toNat = 2 ^ 8 - 1 := by decide
  rw [BitVec.toNat_and, ofInt_nat y h0 (by omega), h1, Nat.and_two_pow_sub_one_eq_mod, wrap_u32_small _ (by omega) (by omega)]
  omega
theorem u32_or256 (x y : Int) (h0 : 0 ≤ x) (hx : x < 4294967296) (hm : x % 256 = 0) (g0 : 0 ≤ y) (hy : y ≤ 255) : bits .or .u32 x y = x + y := by
  show IntKind.u32.wrap ((BitVec.ofInt 32 x ||| BitVec.ofInt 32 y).toNat : Int) = _
  rw [BitVec.toNat_or, ofInt_nat x h0 hx, ofInt_nat y g0 (by omega)]
  have e : x.toNat = 2 ^ 8 * (x.toNat / 256) := by omega
  rw [e, ← Nat.two_pow_add_eq_or_of_lt (show y.toNat < 2 ^ 8 by omega), wrap_u32_small _ (by omega) (by omega)]
  omega
/-- What 'next&^mask | uint32(sn)&mask' gives. -/
theorem joined (x y : Int) (h0 : 0 ≤ x) (hx : x < 4294967296) (g0 : 0 ≤ y) (hy : y ≤ 255) : bits .or .u32 (bits .andNot .u32 x 255) (bits .and .u32 y 255) = x - x % 256 + y := by
  rw [u32_andNot255 x h0 hx, u32_and255 y g0 hy, u32_or256 _ y (by omega) (by omega) (by omega) g0 hy]

set_option maxHeartbeats 1000000 in
theorem est_ok (recv s d : Int) (w : World) (h0 : 0 ≤ recv) (h1 : recv ≤ s) (h2 : s - recv ≤ 255) (h3 : s ≤ 16777215) :
    Calls Tryf.prog 9 #[.int .u32 recv, .int .u8 (s % 256), .int .i64 8, .int .u8 d] w fun e w' => e = .returned (.tuple #[.int .u32 s, .nilIface]) ∧ w = w' := by
  have hj := joined recv (s % 256) h0 (by omega) (by omega) (by omega)
  have g0 : 0 ≤ s % 256 := by omega
  have g1 : s % 256 ≤ 255 := by omega
  have hr : recv ≤ 16777215 := by omega
  by_cases hc : recv - recv % 256 + s % 256 < recv
  · have e : recv - recv % 256 + s % 256 + 256 = s := by omega
    go_enter Tryf.func9, Tryf.ntmps9
    go_wp2
    go_ret2
    exact ⟨rfl, rfl⟩
  · have e : recv - recv % 256 + s % 256 = s := by omega
    go_enter Tryf.func9, Tryf.ntmps9
    go_wp2
    go_ret2
    exact ⟨rfl, rfl⟩

set_option maxHeartbeats 1000000 in
theorem est_used (F : Interp) (recv s d : Int) (w : World) (hF : F.answers w.tape) (h0 : 0 ≤ recv) (h1 : recv ≤ s) (h2 : s - recv ≤ 255) (h3 : 16777215 < s) (h4 : s ≤ 4294967295) :
    Calls Tryf.prog 9 #[.int .u32 recv, .int .u8 (s % 256), .int .i64 8, .int .u8 d] w fun e w' => ∃ p, e = .returned (.tuple #[.int .u32 0, .iface 52 (.pointer p)]) ∧ Below w.heap.size w w' := by
  have hj := joined recv (s % 256) h0 (by omega) (by omega) (by omega)
  have g0 : 0 ≤ s % 256 := by omega
  have g1 : s % 256 ≤ 255 := by omega
  by_cases hr : recv ≤ 16777215
  · by_cases hc : recv - recv % 256 + s % 256 < recv
    · have e : recv - recv % 256 + s % 256 + 256 = s := by omega
      go_enter Tryf.func9, Tryf.ntmps9
      go_wp2_with fail
      refine (usedUp F d _ hF).mono ?_
      rintro e w1 ⟨p, rfl, hb⟩
      go_wp2
      go_ret2
      exact ⟨p, rfl, hb⟩
    · exfalso; omega
  · have hr' : 16777215 < recv := by omega
    go_enter Tryf.func9, Tryf.ntmps9
    go_wp2_with fail
    refine (usedUp F d _ hF).mono ?_
    rintro e w1 ⟨p, rfl, hb⟩
    go_wp2
    go_ret2
    exact ⟨p, rfl, hb⟩

theorem zzest_ok (recv s d : Int) (w : World) (h0 : 0 ≤ recv) (h1 : recv ≤ s) (h2 : s - recv ≤ 255) (h3 : s ≤ 16777215) :
    Calls Tryf.prog 7 #[.int .u32 recv, .int .u8 (s % 256), .int .i64 8, .int .u8 d] w fun e w' => e = .returned (.tuple #[.int .u32 s, .nilIface]) ∧ w = w' := by
  go_enter Tryf.func7, Tryf.ntmps7
  go_wp2_with fail
  refine (est_ok recv s d _ h0 h1 h2 h3).mono ?_
  rintro e w1 ⟨rfl, rfl⟩
  go_wp2
  go_ret2
  exact ⟨rfl, rfl⟩
theorem zzest_used (F : Interp) (recv s d : Int) (w : World) (hF : F.answers w.tape) (h0 : 0 ≤ recv) (h1 : recv ≤ s) (h2 : s - recv ≤ 255) (h3 : 16777215 < s) (h4 : s ≤ 4294967295) :
    Calls Tryf.prog 7 #[.int .u32 recv, .int .u8 (s % 256), .int .i64 8, .int .u8 d] w fun e w' => ∃ p, e = .returned (.tuple #[.int .u32 0, .iface 52 (.pointer p)]) ∧ Below w.heap.size w w' := by
  go_enter Tryf.func7, Tryf.ntmps7
  go_wp2_with fail
  refine (est_used F recv s d _ hF h0 h1 h2 h3 h4).mono ?_
  rintro e w1 ⟨p, rfl, hb⟩
  go_wp2
  go_ret2
  exact ⟨p, rfl, hb⟩
end Go.Proofs.Qxb6616321aFmt
