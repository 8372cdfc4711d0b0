/-
  THE WALK of relay.ZZBitWriterWrite.
-/
import Derived.Test.Qxb6618293aWrite
import Derived.Deep.QuietTactic
import Derived.BigQuiet
import Derived.WalkSmall
namespace Go.Proofs.Qxb6618293a
open Go.RowKit Pl

theorem own_slice {w : World} {B n : Nat} {v : Value} {xs : List Value} (h : w.ownsRow B 5 1 v n xs) : ∃ a l c, v = .slice a l c := by
  rcases h.2 with ⟨rfl, _⟩ | ⟨g, cap, cur, rfl, _⟩
  · exact ⟨_, _, _, rfl⟩
  · exact ⟨_, _, _, rfl⟩

/-- (*bitWriter).write, for every size. -/
theorem write_any (B wb : Nat) (v : Value) (bs : List Int) (f : Nat → Int) (n : Nat) (x size : Int) (w : World)
    (hx0 : -9223372036854775808 ≤ x) (hx1 : x ≤ 9223372036854775807) (hm : size ≤ 65536) (hn : n ≤ 1048576) (hB : B ≤ wb)
    (hblk : w.heap[wb]? = some (.cells #[v, .int .i64 n] 30 (0, 0)))
    (hown : w.ownsRow B 5 1 v bs.length (bs.map (Value.int .u8))) (hrep : Rep bs f n) :
    Calls Try.prog 7 #[.pointer (some ⟨wb, 0, none⟩), .int .i64 x, .int .i64 size] w fun e w' => e = .returned (.tuple #[]) ∧
      ∃ v' bs', w'.heap[wb]? = some (.cells #[v', .int .i64 ((n + size.toNat : Nat) : Int)] 30 (0, 0)) ∧ w'.ownsRow B 5 1 v' bs'.length (bs'.map (Value.int .u8)) ∧ Rep bs' (ext f n x) (n + size.toNat) ∧ Below B w w' := by
  rcases Int.lt_or_le 0 size with h | h
  · obtain ⟨m, rfl⟩ := Int.eq_ofNat_of_zero_le (Int.le_of_lt h)
    rw [Int.toNat_natCast]
    exact write_some B wb v bs f n x m w hx0 hx1 (by omega) hn hB hblk hown hrep
  · have e : n + size.toNat = n := by omega
    rw [e]
    refine (write_none wb x size w h).mono ?_
    rintro e w' ⟨rfl, rfl⟩
    exact ⟨rfl, v, bs, hblk, hown, hrep.congr fun k hk => by unfold ext; rw [if_pos hk], Below.refl _ _⟩

set_option maxHeartbeats 400000 in
theorem zzwrite_any (B : Nat) (v : Value) (bs : List Int) (f : Nat → Int) (n : Nat) (x size : Int) (w : World)
    (hx0 : -9223372036854775808 ≤ x) (hx1 : x ≤ 9223372036854775807) (hm : size ≤ 65536) (hn : n ≤ 1048576) (hB : B ≤ w.heap.size)
    (hown : w.ownsRow B 5 1 v bs.length (bs.map (Value.int .u8))) (hrep : Rep bs f n) :
    Calls Try.prog 6 #[v, .int .i64 n, .int .i64 x, .int .i64 size] w fun e w' =>
      ∃ v' bs', e = .returned (.tuple #[v', .int .i64 ((n + size.toNat : Nat) : Int)]) ∧ w'.ownsRow B 5 1 v' bs'.length (bs'.map (Value.int .u8)) ∧ Rep bs' (ext f n x) (n + size.toNat) ∧ Below B w w' := by
  obtain ⟨a, l, c, rfl⟩ := own_slice hown
  go_enter Try.func6, Try.ntmps6
  go_wp2_with fail
  refine (write_any B w.heap.size (.slice a l c) bs f n x size _ hx0 hx1 hm hn hB (heap_alloc_new w _) (hown.alloc _) hrep).mono ?_
  rintro e w1 ⟨rfl, v', bs', hblk, hown', hrep', hbel⟩
  obtain ⟨a', l', c', rfl⟩ := own_slice hown'
  obtain ⟨c0, c1, f0, f1⟩ := two_cells hblk
  generalize hM : n + size.toNat = M at *
  clear hown
  go_wp2
  go_quiet (fail)
  go_wp2
  go_ret2
  subst hM
  exact ⟨_, _, rfl, hown', hrep', below_drewN (((Below.refl B w).alloc hB _).trans hbel) _⟩
end Go.Proofs.Qxb6618293a
