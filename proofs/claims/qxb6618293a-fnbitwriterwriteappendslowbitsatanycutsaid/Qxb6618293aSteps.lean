/-
  STEP LEMMAS in the walk's own forms: what one round of the writer stores.
-/
import Derived.Test.Qxb6618293aWalks
namespace Go.Proofs.Qxb6618293a
open Go.RowKit Pl

theorem i64_and1 (n : Int) : bits .and .i64 n 1 = n % 2 := by
  have h1 : (BitVec.ofInt 64 1).toNat = 2 ^ 1 - 1 := by decide
  have key : (BitVec.ofInt 64 n &&& BitVec.ofInt 64 1).toNat = (n % ((2 ^ 64 : Nat) : Int)).toNat % 2 ^ 1 := by
    rw [BitVec.toNat_and, BitVec.toNat_ofInt, h1, Nat.and_two_pow_sub_one_eq_mod]
  show IntKind.i64.wrap ((BitVec.ofInt 64 n &&& BitVec.ofInt 64 1).toNat : Nat) = n % 2
  rw [key, IntKind.wrap_i64]
  omega

theorem u8_and1 (y : Int) (h0 : 0 ≤ y) (h1 : y ≤ 255) : bits .and .u8 y 1 = y % 2 := by
  rw [u8_and y 1 h0 (by omega) (by decide) (by decide), show (1 : Int).toNat = 1 from rfl, nat_mask1]
  omega

/-- The bit is laid over nothing: or is plus. -/
theorem or_add (a b : Int) (s : Nat) (h0 : 0 ≤ a) (h1 : a < 2 ^ s) (hs : s < 8) (hb : b = 0 ∨ b = 1) : bits .or .u8 a (b * 2 ^ s % 256) = a + b * 2 ^ s := by
  have p8 := pow_le s hs
  have pp : (0 : Int) < 2 ^ s := Int.pow_pos (by decide)
  rcases hb with rfl | rfl
  · have e : (0 : Int) * 2 ^ s % 256 = 0 := by simp
    rw [e, u8_or a 0 h0 (by omega) (by decide) (by decide)]
    simp; omega
  · have e : (1 : Int) * 2 ^ s % 256 = 2 ^ s := by rw [Int.one_mul]; exact Int.emod_eq_of_lt (by omega) (by omega)
    rw [e, u8_or a (2 ^ s) h0 (by omega) (by omega) (by omega)]
    have et : ((2 : Int) ^ s).toNat = 2 ^ s := toNat_two_pow s
    have ea : a.toNat < 2 ^ s := by have : (((2 ^ s : Nat) : Int)) = 2 ^ s := by simp
                                    omega
    rw [et, Nat.or_comm, nat_join s (2 ^ s) a.toNat (by simp) ea]
    have : (((2 ^ s : Nat) : Int)) = 2 ^ s := by simp
    omega

/-- What the round stores, as the walk spells it. -/
theorem stored_val (a x : Int) (k s : Nat) (h0 : 0 ≤ a) (h1 : a < 2 ^ s) (hs : s < 8) (hx0 : -9223372036854775808 ≤ x) (hx1 : x ≤ 9223372036854775807) :
    bits .or .u8 a (bits .and .i64 (x / 2 ^ min k 64) 1 % 256 * 2 ^ s % 256) = a + sbit x k * 2 ^ s := by
  have e : bits .and .i64 (x / 2 ^ min k 64) 1 % 256 = sbit x k := by
    rw [i64_and1, shr_min x k hx0 hx1]; unfold sbit; omega
  rw [e]
  exact or_add a _ s h0 h1 hs (sbit_01 x k)

theorem two_cells {w : World} {b : Nat} {u v : Value} {t : TypeId} (h : w.heap[b]? = some (.cells #[u, v] t (0, 0))) :
    w.cell? ⟨b, 0, none⟩ = some u ∧ w.cell? ⟨b, 1, none⟩ = some v ∧ w.frozen? ⟨b, 0, none⟩ = false ∧ w.frozen? ⟨b, 1, none⟩ = false := by
  simp [World.cell?, World.frozen?, h]
theorem two_set0 {w : World} {b : Nat} {u v x : Value} {t : TypeId} (h : w.heap[b]? = some (.cells #[u, v] t (0, 0))) : (w.setCell ⟨b, 0, none⟩ x).heap[b]? = some (.cells #[x, v] t (0, 0)) := by
  rw [heap_setCell_same w b 0 #[u, v] t x h]; rfl
theorem two_set1 {w : World} {b : Nat} {u v x : Value} {t : TypeId} (h : w.heap[b]? = some (.cells #[u, v] t (0, 0))) : (w.setCell ⟨b, 1, none⟩ x).heap[b]? = some (.cells #[u, x] t (0, 0)) := by
  rw [heap_setCell_same w b 1 #[u, v] t x h]; rfl

/-- The writer's own block is not the row that it writes to. -/
theorem own_ne {w : World} {B n wb : Nat} {v u1 u2 : Value} {xs : List Value} (h : w.ownsRow B 5 1 v n xs) (hb : w.heap[wb]? = some (.cells #[u1, u2] 30 (0, 0))) : v.ownBlock ≠ some wb := by
  intro e
  rcases h.2 with ⟨rfl, _⟩ | ⟨g, cap, cur, rfl, _, hg, _⟩
  · simp [Value.ownBlock] at e
  · simp [Value.ownBlock] at e
    subst e
    rw [hg] at hb
    simp at hb

/-- One round, behind the test: the relation's limbs at k + 1. -/
theorem rel_put {W w : World} {B g wb cap L N n k : Nat} {x a : Int} {bs : List Int} {f : Nat → Int} (hN : n + k = N) (hL : L = (room bs N).length)
    (hown : W.ownsRow B 5 1 (.slice (some ⟨g, 0, none⟩) (room bs N).length cap) (room bs N).length ((room bs N).map (Value.int .u8)))
    (hblk : W.heap[wb]? = some (.cells #[.slice (some ⟨g, 0, none⟩) L cap, .int .i64 N] 30 (0, 0))) (hgw : g ≠ wb) (hB : B ≤ wb) (hbel : Below B w W)
    (hrep : Rep bs (ext f n x) N) (ha : (room bs N).getD (N / 8) 0 = a) (hx0 : -9223372036854775808 ≤ x) (hx1 : x ≤ 9223372036854775807) :
    (((W.setCell ⟨g, N / 8, none⟩ (.int .u8 (bits .or .u8 a (bits .and .i64 (x / 2 ^ min k 64) 1 % 256 * 2 ^ (N % 8) % 256)))).setCell ⟨wb, 1, none⟩ (.int .i64 ((N : Int) + 1))).drew).heap[wb]? = some (.cells #[.slice (some ⟨g, 0, none⟩) L cap, .int .i64 ((n + (k + 1) : Nat) : Int)] 30 (0, 0)) ∧
    (((W.setCell ⟨g, N / 8, none⟩ (.int .u8 (bits .or .u8 a (bits .and .i64 (x / 2 ^ min k 64) 1 % 256 * 2 ^ (N % 8) % 256)))).setCell ⟨wb, 1, none⟩ (.int .i64 ((N : Int) + 1))).drew).ownsRow B 5 1 (.slice (some ⟨g, 0, none⟩) L cap) (put bs N (sbit x k)).length ((put bs N (sbit x k)).map (Value.int .u8)) ∧
    Rep (put bs N (sbit x k)) (ext f n x) (n + (k + 1)) ∧
    Below B w (((W.setCell ⟨g, N / 8, none⟩ (.int .u8 (bits .or .u8 a (bits .and .i64 (x / 2 ^ min k 64) 1 % 256 * 2 ^ (N % 8) % 256)))).setCell ⟨wb, 1, none⟩ (.int .i64 ((N : Int) + 1))).drew) := by
  have hr := room_rng (n := N) hrep.rng (N / 8)
  have hlt := room_lt hrep
  have hgB : B ≤ g := (hown.lt g (by simp [Value.ownBlock])).1
  rw [ha] at hr hlt
  rw [stored_val a x k (N % 8) hr.1 hlt (by omega) hx0 hx1]
  have e1 : n + (k + 1) = N + 1 := by omega
  have hpl : (put bs N (sbit x k)).length = (room bs N).length := by unfold put; simp
  refine ⟨?_, ?_, ?_, ?_⟩
  · show ((W.setCell _ _).setCell _ _).heap[wb]? = _
    rw [e1]
    refine two_set1 (u := .slice (some ⟨g, 0, none⟩) L cap) (v := .int .i64 N) ?_
    rw [Below.heap_setCell _ _ _ _ (by simpa using fun e => hgw e.symm)]
    exact hblk
  · refine World.ownsRow.drew ?_
    subst hL
    have h1 := (hown.stored (N / 8) (.int .u8 (a + sbit x k * 2 ^ (N % 8)))).1
    have h2 := ownsRow_setCell_other h1 (a := ⟨wb, 1, none⟩) (by simp [Value.ownBlock, hgw]) (.int .i64 ((N : Int) + 1))
    have e2 : ((room bs N).map (Value.int .u8)).set (N / 8) (.int .u8 (a + sbit x k * 2 ^ (N % 8))) = (put bs N (sbit x k)).map (Value.int .u8) := by
      unfold put; rw [ha, List.map_set]
    rw [e2] at h2
    rw [hpl]
    exact h2
  · rw [e1]
    refine hrep.put (sbit_01 x k) ?_
    unfold ext
    rw [if_neg (by omega)]
    congr 1; omega
  · exact ((hbel.setCell hgB _).setCell hB _).drew
end Go.Proofs.Qxb6618293a
