/-
  PLAIN LAW: bytes that hold bits. No Go in sight.
-/
import Derived.Test.Qxb6618293aRows
import Derived.WalkKit
namespace Go.Proofs.Qxb6618293a
namespace Pl

/-- Bit i of x in two's complement. -/
def sbit (x : Int) (i : Nat) : Int := x / 2 ^ i % 2

/-- Bit k of a row of bytes. -/
def bitAt (bs : List Int) (k : Nat) : Int := bs.getD (k / 8) 0 / 2 ^ (k % 8) % 2

/-- The bytes bs hold the bits f below n; every bit from n on is zero; no byte too many. -/
structure Rep (bs : List Int) (f : Nat → Int) (n : Nat) : Prop where
  len : bs.length = (n + 7) / 8
  rng : ∀ j, 0 ≤ bs.getD j 0 ∧ bs.getD j 0 ≤ 255
  bit : ∀ k, k < 8 * bs.length → bitAt bs k = if k < n then f k else 0

/-- f below n, the bits of x from n on. -/
def ext (f : Nat → Int) (n : Nat) (x : Int) : Nat → Int := fun k => if k < n then f k else sbit x (k - n)

theorem sbit_01 (x : Int) (i : Nat) : sbit x i = 0 ∨ sbit x i = 1 := by unfold sbit; omega

theorem Rep.congr {bs : List Int} {f g : Nat → Int} {n : Nat} (h : Rep bs f n) (e : ∀ k, k < n → f k = g k) : Rep bs g n :=
  ⟨h.len, h.rng, fun k hk => by
    rw [h.bit k hk]
    by_cases hn : k < n
    · rw [if_pos hn, if_pos hn, e k hn]
    · rw [if_neg hn, if_neg hn]⟩

/-! ### One byte -/
/-- A byte whose bits from s on are all zero is below 2^s. -/
theorem byte_lt (a : Int) (s : Nat) (h0 : 0 ≤ a) (h1 : a ≤ 255) (hs : s < 8) (h : ∀ t, s ≤ t → t < 8 → a / 2 ^ t % 2 = 0) : a < 2 ^ s := by
  match s, hs with
  | 0, _ => have := h 0 (by omega) (by omega); have := h 1 (by omega) (by omega); have := h 2 (by omega) (by omega); have := h 3 (by omega) (by omega); have := h 4 (by omega) (by omega); have := h 5 (by omega) (by omega); have := h 6 (by omega) (by omega); have := h 7 (by omega) (by omega); simp at *; omega
  | 1, _ => have := h 1 (by omega) (by omega); have := h 2 (by omega) (by omega); have := h 3 (by omega) (by omega); have := h 4 (by omega) (by omega); have := h 5 (by omega) (by omega); have := h 6 (by omega) (by omega); have := h 7 (by omega) (by omega); simp at *; omega
  | 2, _ => have := h 2 (by omega) (by omega); have := h 3 (by omega) (by omega); have := h 4 (by omega) (by omega); have := h 5 (by omega) (by omega); have := h 6 (by omega) (by omega); have := h 7 (by omega) (by omega); simp at *; omega
  | 3, _ => have := h 3 (by omega) (by omega); have := h 4 (by omega) (by omega); have := h 5 (by omega) (by omega); have := h 6 (by omega) (by omega); have := h 7 (by omega) (by omega); simp at *; omega
  | 4, _ => have := h 4 (by omega) (by omega); have := h 5 (by omega) (by omega); have := h 6 (by omega) (by omega); have := h 7 (by omega) (by omega); simp at *; omega
  | 5, _ => have := h 5 (by omega) (by omega); have := h 6 (by omega) (by omega); have := h 7 (by omega) (by omega); simp at *; omega
  | 6, _ => have := h 6 (by omega) (by omega); have := h 7 (by omega) (by omega); simp at *; omega
  | 7, _ => have := h 7 (by omega) (by omega); simp at *; omega

/-- Two bytes with the same bits are one. -/
theorem byte_ext (a b : Int) (a0 : 0 ≤ a) (a1 : a ≤ 255) (b0 : 0 ≤ b) (b1 : b ≤ 255) (h : ∀ t, t < 8 → a / 2 ^ t % 2 = b / 2 ^ t % 2) : a = b := by
  have h0 := h 0 (by omega); have h1 := h 1 (by omega); have h2 := h 2 (by omega); have h3 := h 3 (by omega); have h4 := h 4 (by omega); have h5 := h 5 (by omega); have h6 := h 6 (by omega); have h7 := h 7 (by omega)
  clear h
  simp at *
  omega

/-- The bits of a + b * 2^s, a below 2^s. -/
theorem byte_add (a b : Int) (s t : Nat) (a0 : 0 ≤ a) (ha : a < 2 ^ s) (hb : b = 0 ∨ b = 1) : (a + b * 2 ^ s) / 2 ^ t % 2 = if t < s then a / 2 ^ t % 2 else if t = s then b else 0 := by
  have ps : (0 : Int) < 2 ^ s := Int.pow_pos (by decide)
  have pt : (0 : Int) < 2 ^ t := Int.pow_pos (by decide)
  split
  · rename_i h
    have e : (2 : Int) ^ s = 2 ^ t * (2 * 2 ^ (s - t - 1)) := by
      rw [← Int.pow_succ', ← Int.pow_add]; congr 1; omega
    rw [e, show a + b * (2 ^ t * (2 * 2 ^ (s - t - 1))) = a + 2 ^ t * (2 * (b * 2 ^ (s - t - 1))) by rw [Int.mul_left_comm b, Int.mul_left_comm b], Int.add_mul_ediv_left _ _ (by omega)]
    omega
  · split
    · rename_i h1 h2
      subst h2
      rw [Int.mul_comm, Int.add_mul_ediv_left _ _ (by omega), Int.ediv_eq_zero_of_lt a0 ha]
      omega
    · rename_i h1 h2
      have e : (2 : Int) ^ t = 2 * 2 ^ s * 2 ^ (t - s - 1) := by
        rw [← Int.pow_succ', ← Int.pow_add]; congr 1; omega
      have q : (1 : Int) ≤ 2 ^ (t - s - 1) := Int.pow_pos (by decide)
      have l : 2 * (2 : Int) ^ s * 1 ≤ 2 * 2 ^ s * 2 ^ (t - s - 1) := Int.mul_le_mul_of_nonneg_left q (by omega)
      have u : b * 2 ^ s ≤ 2 ^ s := by rcases hb with rfl | rfl <;> omega
      have v : 0 ≤ b * 2 ^ s := by rcases hb with rfl | rfl <;> omega
      rw [Int.ediv_eq_zero_of_lt (by omega) (by omega)]
      rfl

/-! ### One step of the writer -/
/-- Room for bit n. -/
def room (bs : List Int) (n : Nat) : List Int := if n % 8 = 0 then bs ++ [0] else bs
/-- Bit n is written. -/
def put (bs : List Int) (n : Nat) (b : Int) : List Int := (room bs n).set (n / 8) ((room bs n).getD (n / 8) 0 + b * 2 ^ (n % 8))

theorem room_rng {bs : List Int} {n : Nat} (h : ∀ j, 0 ≤ bs.getD j 0 ∧ bs.getD j 0 ≤ 255) : ∀ j, 0 ≤ (room bs n).getD j 0 ∧ (room bs n).getD j 0 ≤ 255 := by
  intro j
  unfold room
  split
  · have := h j
    simp only [List.getD_eq_getElem?_getD, List.getElem?_append] at this ⊢
    split
    · exact this
    · by_cases h1 : j - bs.length = 0
      · simp [h1]
      · rw [show ([0] : List Int)[j - bs.length]? = none from List.getElem?_eq_none (by simp; omega)]; simp
  · exact h j

theorem room_len {bs : List Int} {n : Nat} (h : bs.length = (n + 7) / 8) : (room bs n).length = n / 8 + 1 := by
  unfold room
  split
  · simp; omega
  · omega

theorem room_bit {bs : List Int} {f : Nat → Int} {n : Nat} (h : Rep bs f n) (k : Nat) (hk : k < 8 * (room bs n).length) : bitAt (room bs n) k = if k < n then f k else 0 := by
  have hl := h.len
  unfold room at hk ⊢
  split
  · rename_i h8
    rw [if_pos h8] at hk
    simp only [List.length_append, List.length_cons, List.length_nil] at hk
    by_cases hb : k < 8 * bs.length
    · rw [← h.bit k hb]
      unfold bitAt
      simp only [List.getD_eq_getElem?_getD, List.getElem?_append]
      rw [if_pos (by omega)]
    · rw [if_neg (by omega)]
      unfold bitAt
      simp only [List.getD_eq_getElem?_getD, List.getElem?_append]
      rw [if_neg (by omega), show k / 8 - bs.length = 0 by omega]
      simp
  · rename_i h8
    rw [if_neg h8] at hk
    exact h.bit k hk

/-- The byte that bit n goes into holds only what lies below it. -/
theorem room_lt {bs : List Int} {f : Nat → Int} {n : Nat} (h : Rep bs f n) : (room bs n).getD (n / 8) 0 < 2 ^ (n % 8) := by
  have hr := room_rng (n := n) h.rng (n / 8)
  have hl := room_len h.len
  refine byte_lt _ _ hr.1 hr.2 (by omega) fun t h1 h2 => ?_
  have := room_bit h (8 * (n / 8) + t) (by omega)
  rw [if_neg (by omega)] at this
  unfold bitAt at this
  rw [show (8 * (n / 8) + t) / 8 = n / 8 by omega, show (8 * (n / 8) + t) % 8 = t by omega] at this
  exact this

theorem pow_le (s : Nat) (hs : s < 8) : (2 : Int) ^ s ≤ 128 := by
  match s, hs with
  | 0, _ => decide
  | 1, _ => decide
  | 2, _ => decide
  | 3, _ => decide
  | 4, _ => decide
  | 5, _ => decide
  | 6, _ => decide
  | 7, _ => decide

theorem Rep.put {bs : List Int} {f : Nat → Int} {n : Nat} {b : Int} (h : Rep bs f n) (hb : b = 0 ∨ b = 1) (hf : f n = b) : Rep (put bs n b) f (n + 1) := by
  have hl := room_len h.len
  have hlt := room_lt h
  have hr := room_rng (n := n) h.rng
  have p8 := pow_le (n % 8) (by omega)
  have hlen : (Pl.put bs n b).length = n / 8 + 1 := by unfold Pl.put; simp [hl]
  have u : b * 2 ^ (n % 8) ≤ 2 ^ (n % 8) := by rcases hb with rfl | rfl <;> simp <;> exact Int.le_of_lt (Int.pow_pos (by decide))
  have v : 0 ≤ b * 2 ^ (n % 8) := by rcases hb with rfl | rfl <;> simp; exact Int.le_of_lt (Int.pow_pos (by decide))
  have hg : ∀ j, (Pl.put bs n b).getD j 0 = if j = n / 8 then (room bs n).getD (n / 8) 0 + b * 2 ^ (n % 8) else (room bs n).getD j 0 := by
    intro j
    unfold Pl.put
    simp only [List.getD_eq_getElem?_getD, List.getElem?_set]
    by_cases e : n / 8 = j
    · subst e
      simp [hl]
    · rw [if_neg e, if_neg (by omega)]
  refine ⟨by rw [hlen]; omega, fun j => ?_, fun k hk => ?_⟩
  · rw [hg]
    have := hr j
    have := hr (n / 8)
    split <;> omega
  · rw [hlen] at hk
    unfold bitAt
    rw [hg]
    have hk' := room_bit h k (by omega)
    unfold bitAt at hk'
    split
    · rename_i e
      rw [byte_add _ _ _ _ (hr _).1 hlt hb]
      rw [e] at hk'
      split
      · rw [hk', if_pos (by omega), if_pos (by omega)]
      · split
        · have : k = n := by omega
          subst this
          rw [if_pos (by omega), hf]
        · rw [if_neg (by omega)]
    · rw [hk', if_pos (by omega), if_pos (by omega)]

/-- Two rows of bytes that hold the same bits are one. -/
theorem Rep.unique {cs bs : List Int} {f g : Nat → Int} {n : Nat} (ha : Rep cs f n) (hb : Rep bs g n) (e : ∀ k, k < n → f k = g k) : ∀ j, cs.getD j 0 = bs.getD j 0 := by
  intro j
  have la := ha.len
  have lb := hb.len
  by_cases hj : j < cs.length
  · refine byte_ext _ _ (ha.rng j).1 (ha.rng j).2 (hb.rng j).1 (hb.rng j).2 fun t ht => ?_
    have h1 := ha.bit (8 * j + t) (by omega)
    have h2 := hb.bit (8 * j + t) (by omega)
    unfold bitAt at h1 h2
    rw [show (8 * j + t) / 8 = j by omega, show (8 * j + t) % 8 = t by omega] at h1 h2
    rw [h1, h2]
    split
    · rename_i hn; exact e _ hn
    · rfl
  · simp only [List.getD_eq_getElem?_getD]
    rw [List.getElem?_eq_none (by omega), List.getElem?_eq_none (by omega)]

/-- What came in: if no bit past the end is set, the bytes hold their own bits. -/
theorem Rep.of (bs : List Int) (n : Nat) (hl : bs.length = (n + 7) / 8) (hr : ∀ j, 0 ≤ bs.getD j 0 ∧ bs.getD j 0 ≤ 255) (h : n % 8 ≠ 0 → bs.getD (n / 8) 0 / 2 ^ (n % 8) = 0) : Rep bs (bitAt bs) n := by
  refine ⟨hl, hr, fun k hk => ?_⟩
  split
  · rfl
  · rename_i hn
    have h8 : n % 8 ≠ 0 := by omega
    have h0 := h h8
    have e : k / 8 = n / 8 := by omega
    unfold bitAt
    rw [e]
    have hlt : bs.getD (n / 8) 0 < 2 ^ (n % 8) := by
      rcases Int.lt_or_le (bs.getD (n / 8) 0) (2 ^ (n % 8)) with h | h
      · exact h
      · have := Int.ediv_le_ediv (show (0 : Int) < 2 ^ (n % 8) from Int.pow_pos (by decide)) h
        rw [h0, Int.ediv_self (Int.ne_of_gt (Int.pow_pos (by decide)))] at this
        omega
    have hle : (2 : Int) ^ (n % 8) ≤ 2 ^ (k % 8) := by
      have e2 : (2 : Int) ^ (k % 8) = 2 ^ (n % 8) * 2 ^ (k % 8 - n % 8) := by rw [← Int.pow_add]; congr 1; omega
      have q : (1 : Int) ≤ 2 ^ (k % 8 - n % 8) := Int.pow_pos (by decide)
      have := Int.mul_le_mul_of_nonneg_left q (show (0 : Int) ≤ 2 ^ (n % 8) from Int.le_of_lt (Int.pow_pos (by decide)))
      omega
    rw [Int.ediv_eq_zero_of_lt (hr _).1 (by omega)]
    rfl

/-! ### Go's shift of a 64-bit number -/
theorem shr_min (x : Int) (i : Nat) (h0 : -9223372036854775808 ≤ x) (h1 : x ≤ 9223372036854775807) : x / 2 ^ min i 64 = x / 2 ^ i := by
  by_cases h : i ≤ 64
  · rw [Nat.min_eq_left h]
  · rw [Nat.min_eq_right (by omega)]
    have e : (2 : Int) ^ i = 2 ^ 64 * 2 ^ (i - 64) := by rw [← Int.pow_add]; congr 1; omega
    have q : (0 : Int) < 2 ^ (i - 64) := Int.pow_pos (by decide)
    rw [e, ← Int.ediv_ediv_of_nonneg (by decide)]
    have hc : x / 2 ^ 64 = 0 ∨ x / 2 ^ 64 = -1 := by omega
    rcases hc with hc | hc
    · rw [hc]; simp
    · rw [hc, Int.ediv_eq_neg_one_of_neg_of_le (by decide) (by omega)]
theorem sbit_shift (x : Int) (c i : Nat) : sbit (x / 2 ^ c) i = sbit x (c + i) := by
  unfold sbit
  rw [Int.pow_add, ← Int.ediv_ediv_of_nonneg (Int.le_of_lt (Int.pow_pos (by decide)))]
/-- Two writes are one. -/
theorem ext_ext (f : Nat → Int) (n c : Nat) (x : Int) (k : Nat) : ext (ext f n x) (n + c) (x / 2 ^ c) k = ext f n x k := by
  unfold ext
  by_cases h : k < n + c
  · rw [if_pos h]
  · rw [if_neg h, if_neg (by omega), sbit_shift]
    congr 1; omega
end Pl
end Go.Proofs.Qxb6618293a
