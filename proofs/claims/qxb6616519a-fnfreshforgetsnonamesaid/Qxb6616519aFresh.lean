/-
  THE WALK of (*lineMembers).fresh.
-/
import Derived.Test.Qxb6616519aFreshA
import Derived.Deep.DrawnRows
import Derived.Deep.DeepCutAuto
import Derived.Deep.Slices
namespace Go.Proofs.Qxb6616519a
open Go.RowKit Go.Maps

def Oks (cs : Array Value) (ok : Nat → Bool) : Prop := ∀ k, k < 6 → cs[5 * k + 4]? = some (.bool (ok k))
def Few (w : World) (mb : Nat) (cs : Array Value) (seen : List (List Int)) : Prop :=
  seen.length ≤ 16 ∧ cs[47]? = some (.map none) ∧ cs[46]? = some (.int .i64 seen.length) ∧ ∀ j, j < seen.length → (∃ a n c, cs[30 + j]? = some (.slice a n c) ∧ BytesAt w mb a n (seen.getD j [])) ∧ (seen.getD j []).length ≤ 1048576
def Many (w : World) (mb : Nat) (cs : Array Value) (seen : List (List Int)) : Prop := ∃ b, cs[47]? = some (.map (some b)) ∧ mb < b ∧ MapOf w b seen
/-- The members of a line: the flags of the six, and the names seen. -/
def Mem (w : World) (mb : Nat) (ok : Nat → Bool) (seen : List (List Int)) : Prop :=
  ∃ cs, w.heap[mb]? = some (.cells cs 112 (0, 0)) ∧ cs.size = 51 ∧ Oks cs ok ∧ (Few w mb cs seen ∨ Many w mb cs seen)

theorem at_cell {w : World} {b j : Nat} {cs : Array Value} {t : TypeId} {v : Value} (h : w.heap[b]? = some (.cells cs t (0, 0))) (hv : cs[j]? = some v) : w.cell? ⟨b, j, none⟩ = some v := by
  simp only [World.cell?]
  rw [h]
  exact hv
theorem at_frozen {w : World} {b j : Nat} {cs : Array Value} {t : TypeId} (h : w.heap[b]? = some (.cells cs t (0, 0))) : w.frozen? ⟨b, j, none⟩ = false := by
  simp only [World.frozen?]
  rw [h]
  simp

set_option maxRecDepth 100000 in
theorem fresh_k (mb k : Nat) (ok : Nat → Bool) (seen : List (List Int)) (v : Value) (w : World) (hk : k < 6) (h : Mem w mb ok seen) :
    Calls Try.prog 30 #[.pointer (some ⟨mb, 0, none⟩), v, .int .i64 k] w fun e w' => e = .returned (.bool (!ok k)) ∧ w = w' := by
  obtain ⟨cs, hb, hs, ho, _⟩ := h
  have c := at_cell hb (ho k hk)
  clear hb ho
  have : k = 0 ∨ k = 1 ∨ k = 2 ∨ k = 3 ∨ k = 4 ∨ k = 5 := by omega
  rcases this with rfl | rfl | rfl | rfl | rfl | rfl
  all_goals
    go_enter Try.func30, Try.ntmps30
    go_wp2
    go_ret
    exact ⟨rfl, rfl⟩

theorem len105 : Try.prog.arrayLen 105 = 16 := by kernel_rfl
theorem und105 : Try.prog.underlying 105 = some (.array (Try.prog.arrayLen 105) (Try.prog.elem 105)) := by kernel_rfl
theorem siz105 (W : World) : (sizeOf (Try.prog.elem 105)).run Try.prog W = .ok 1 W := by kernel_rfl
theorem slice16 (W : World) (mb k : Nat) (hk : k ≤ 16) : (Instr.sliceAt 105 (.pointer (some ⟨mb, 30, none⟩)) none (some (.int .i64 k)) none).run Try.prog W = .ok (.slice (some ⟨mb, 30, none⟩) k 16) W := by
  rw [run_sliceAt_array_h W 105 ⟨mb, 30, none⟩ und105 .i64 k (by omega) (by rw [len105]; omega), siz105, len105]
  simp [Result.andThen, slicedAt, Addr.add]

theorem index16_0 (W : World) (A : Nat → Option Addr) (L C : Nat → Nat) : (Instr.index 105 (.agg #[.slice (A 0) (L 0) (C 0), .slice (A 1) (L 1) (C 1), .slice (A 2) (L 2) (C 2), .slice (A 3) (L 3) (C 3), .slice (A 4) (L 4) (C 4), .slice (A 5) (L 5) (C 5), .slice (A 6) (L 6) (C 6), .slice (A 7) (L 7) (C 7), .slice (A 8) (L 8) (C 8), .slice (A 9) (L 9) (C 9), .slice (A 10) (L 10) (C 10), .slice (A 11) (L 11) (C 11), .slice (A 12) (L 12) (C 12), .slice (A 13) (L 13) (C 13), .slice (A 14) (L 14) (C 14), .slice (A 15) (L 15) (C 15)]) (.int .i64 ((0 : Nat) : Int))).run Try.prog W = .ok (.slice (A 0) (L 0) (C 0)) W := by kernel_rfl
theorem index16_1 (W : World) (A : Nat → Option Addr) (L C : Nat → Nat) : (Instr.index 105 (.agg #[.slice (A 0) (L 0) (C 0), .slice (A 1) (L 1) (C 1), .slice (A 2) (L 2) (C 2), .slice (A 3) (L 3) (C 3), .slice (A 4) (L 4) (C 4), .slice (A 5) (L 5) (C 5), .slice (A 6) (L 6) (C 6), .slice (A 7) (L 7) (C 7), .slice (A 8) (L 8) (C 8), .slice (A 9) (L 9) (C 9), .slice (A 10) (L 10) (C 10), .slice (A 11) (L 11) (C 11), .slice (A 12) (L 12) (C 12), .slice (A 13) (L 13) (C 13), .slice (A 14) (L 14) (C 14), .slice (A 15) (L 15) (C 15)]) (.int .i64 ((1 : Nat) : Int))).run Try.prog W = .ok (.slice (A 1) (L 1) (C 1)) W := by kernel_rfl
theorem index16_2 (W : World) (A : Nat → Option Addr) (L C : Nat → Nat) : (Instr.index 105 (.agg #[.slice (A 0) (L 0) (C 0), .slice (A 1) (L 1) (C 1), .slice (A 2) (L 2) (C 2), .slice (A 3) (L 3) (C 3), .slice (A 4) (L 4) (C 4), .slice (A 5) (L 5) (C 5), .slice (A 6) (L 6) (C 6), .slice (A 7) (L 7) (C 7), .slice (A 8) (L 8) (C 8), .slice (A 9) (L 9) (C 9), .slice (A 10) (L 10) (C 10), .slice (A 11) (L 11) (C 11), .slice (A 12) (L 12) (C 12), .slice (A 13) (L 13) (C 13), .slice (A 14) (L 14) (C 14), .slice (A 15) (L 15) (C 15)]) (.int .i64 ((2 : Nat) : Int))).run Try.prog W = .ok (.slice (A 2) (L 2) (C 2)) W := by kernel_rfl
theorem index16_3 (W : World) (A : Nat → Option Addr) (L C : Nat → Nat) : (Instr.index 105 (.agg #[.slice (A 0) (L 0) (C 0), .slice (A 1) (L 1) (C 1), .slice (A 2) (L 2) (C 2), .slice (A 3) (L 3) (C 3), .slice (A 4) (L 4) (C 4), .slice (A 5) (L 5) (C 5), .slice (A 6) (L 6) (C 6), .slice (A 7) (L 7) (C 7), .slice (A 8) (L 8) (C 8), .slice (A 9) (L 9) (C 9), .slice (A 10) (L 10) (C 10), .slice (A 11) (L 11) (C 11), .slice (A 12) (L 12) (C 12), .slice (A 13) (L 13) (C 13), .slice (A 14) (L 14) (C 14), .slice (A 15) (L 15) (C 15)]) (.int .i64 ((3 : Nat) : Int))).run Try.prog W = .ok (.slice (A 3) (L 3) (C 3)) W := by kernel_rfl
theorem index16_4 (W : World) (A : Nat → Option Addr) (L C : Nat → Nat) : (Instr.index 105 (.agg #[.slice (A 0) (L 0) (C 0), .slice (A 1) (L 1) (C 1), .slice (A 2) (L 2) (C 2), .slice (A 3) (L 3) (C 3), .slice (A 4) (L 4) (C 4), .slice (A 5) (L 5) (C 5), .slice (A 6) (L 6) (C 6), .slice (A 7) (L 7) (C 7), .slice (A 8) (L 8) (C 8), .slice (A 9) (L 9) (C 9), .slice (A 10) (L 10) (C 10), .slice (A 11) (L 11) (C 11), .slice (A 12) (L 12) (C 12), .slice (A 13) (L 13) (C 13), .slice (A 14) (L 14) (C 14), .slice (A 15) (L 15) (C 15)]) (.int .i64 ((4 : Nat) : Int))).run Try.prog W = .ok (.slice (A 4) (L 4) (C 4)) W := by kernel_rfl
theorem index16_5 (W : World) (A : Nat → Option Addr) (L C : Nat → Nat) : (Instr.index 105 (.agg #[.slice (A 0) (L 0) (C 0), .slice (A 1) (L 1) (C 1), .slice (A 2) (L 2) (C 2), .slice (A 3) (L 3) (C 3), .slice (A 4) (L 4) (C 4), .slice (A 5) (L 5) (C 5), .slice (A 6) (L 6) (C 6), .slice (A 7) (L 7) (C 7), .slice (A 8) (L 8) (C 8), .slice (A 9) (L 9) (C 9), .slice (A 10) (L 10) (C 10), .slice (A 11) (L 11) (C 11), .slice (A 12) (L 12) (C 12), .slice (A 13) (L 13) (C 13), .slice (A 14) (L 14) (C 14), .slice (A 15) (L 15) (C 15)]) (.int .i64 ((5 : Nat) : Int))).run Try.prog W = .ok (.slice (A 5) (L 5) (C 5)) W := by kernel_rfl
theorem index16_6 (W : World) (A : Nat → Option Addr) (L C : Nat → Nat) : (Instr.index 105 (.agg #[.slice (A 0) (L 0) (C 0), .slice (A 1) (L 1) (C 1), .slice (A 2) (L 2) (C 2), .slice (A 3) (L 3) (C 3), .slice (A 4) (L 4) (C 4), .slice (A 5) (L 5) (C 5), .slice (A 6) (L 6) (C 6), .slice (A 7) (L 7) (C 7), .slice (A 8) (L 8) (C 8), .slice (A 9) (L 9) (C 9), .slice (A 10) (L 10) (C 10), .slice (A 11) (L 11) (C 11), .slice (A 12) (L 12) (C 12), .slice (A 13) (L 13) (C 13), .slice (A 14) (L 14) (C 14), .slice (A 15) (L 15) (C 15)]) (.int .i64 ((6 : Nat) : Int))).run Try.prog W = .ok (.slice (A 6) (L 6) (C 6)) W := by kernel_rfl
theorem index16_7 (W : World) (A : Nat → Option Addr) (L C : Nat → Nat) : (Instr.index 105 (.agg #[.slice (A 0) (L 0) (C 0), .slice (A 1) (L 1) (C 1), .slice (A 2) (L 2) (C 2), .slice (A 3) (L 3) (C 3), .slice (A 4) (L 4) (C 4), .slice (A 5) (L 5) (C 5), .slice (A 6) (L 6) (C 6), .slice (A 7) (L 7) (C 7), .slice (A 8) (L 8) (C 8), .slice (A 9) (L 9) (C 9), .slice (A 10) (L 10) (C 10), .slice (A 11) (L 11) (C 11), .slice (A 12) (L 12) (C 12), .slice (A 13) (L 13) (C 13), .slice (A 14) (L 14) (C 14), .slice (A 15) (L 15) (C 15)]) (.int .i64 ((7 : Nat) : Int))).run Try.prog W = .ok (.slice (A 7) (L 7) (C 7)) W := by kernel_rfl
theorem index16_8 (W : World) (A : Nat → Option Addr) (L C : Nat → Nat) : (Instr.index 105 (.agg #[.slice (A 0) (L 0) (C 0), .slice (A 1) (L 1) (C 1), .slice (A 2) (L 2) (C 2), .slice (A 3) (L 3) (C 3), .slice (A 4) (L 4) (C 4), .slice (A 5) (L 5) (C 5), .slice (A 6) (L 6) (C 6), .slice (A 7) (L 7) (C 7), .slice (A 8) (L 8) (C 8), .slice (A 9) (L 9) (C 9), .slice (A 10) (L 10) (C 10), .slice (A 11) (L 11) (C 11), .slice (A 12) (L 12) (C 12), .slice (A 13) (L 13) (C 13), .slice (A 14) (L 14) (C 14), .slice (A 15) (L 15) (C 15)]) (.int .i64 ((8 : Nat) : Int))).run Try.prog W = .ok (.slice (A 8) (L 8) (C 8)) W := by kernel_rfl
theorem index16_9 (W : World) (A : Nat → Option Addr) (L C : Nat → Nat) : (Instr.index 105 (.agg #[.slice (A 0) (L 0) (C 0), .slice (A 1) (L 1) (C 1), .slice (A 2) (L 2) (C 2), .slice (A 3) (L 3) (C 3), .slice (A 4) (L 4) (C 4), .slice (A 5) (L 5) (C 5), .slice (A 6) (L 6) (C 6), .slice (A 7) (L 7) (C 7), .slice (A 8) (L 8) (C 8), .slice (A 9) (L 9) (C 9), .slice (A 10) (L 10) (C 10), .slice (A 11) (L 11) (C 11), .slice (A 12) (L 12) (C 12), .slice (A 13) (L 13) (C 13), .slice (A 14) (L 14) (C 14), .slice (A 15) (L 15) (C 15)]) (.int .i64 ((9 : Nat) : Int))).run Try.prog W = .ok (.slice (A 9) (L 9) (C 9)) W := by kernel_rfl
theorem index16_10 (W : World) (A : Nat → Option Addr) (L C : Nat → Nat) : (Instr.index 105 (.agg #[.slice (A 0) (L 0) (C 0), .slice (A 1) (L 1) (C 1), .slice (A 2) (L 2) (C 2), .slice (A 3) (L 3) (C 3), .slice (A 4) (L 4) (C 4), .slice (A 5) (L 5) (C 5), .slice (A 6) (L 6) (C 6), .slice (A 7) (L 7) (C 7), .slice (A 8) (L 8) (C 8), .slice (A 9) (L 9) (C 9), .slice (A 10) (L 10) (C 10), .slice (A 11) (L 11) (C 11), .slice (A 12) (L 12) (C 12), .slice (A 13) (L 13) (C 13), .slice (A 14) (L 14) (C 14), .slice (A 15) (L 15) (C 15)]) (.int .i64 ((10 : Nat) : Int))).run Try.prog W = .ok (.slice (A 10) (L 10) (C 10)) W := by kernel_rfl
theorem index16_11 (W : World) (A : Nat → Option Addr) (L C : Nat → Nat) : (Instr.index 105 (.agg #[.slice (A 0) (L 0) (C 0), .slice (A 1) (L 1) (C 1), .slice (A 2) (L 2) (C 2), .slice (A 3) (L 3) (C 3), .slice (A 4) (L 4) (C 4), .slice (A 5) (L 5) (C 5), .slice (A 6) (L 6) (C 6), .slice (A 7) (L 7) (C 7), .slice (A 8) (L 8) (C 8), .slice (A 9) (L 9) (C 9), .slice (A 10) (L 10) (C 10), .slice (A 11) (L 11) (C 11), .slice (A 12) (L 12) (C 12), .slice (A 13) (L 13) (C 13), .slice (A 14) (L 14) (C 14), .slice (A 15) (L 15) (C 15)]) (.int .i64 ((11 : Nat) : Int))).run Try.prog W = .ok (.slice (A 11) (L 11) (C 11)) W := by kernel_rfl
theorem index16_12 (W : World) (A : Nat → Option Addr) (L C : Nat → Nat) : (Instr.index 105 (.agg #[.slice (A 0) (L 0) (C 0), .slice (A 1) (L 1) (C 1), .slice (A 2) (L 2) (C 2), .slice (A 3) (L 3) (C 3), .slice (A 4) (L 4) (C 4), .slice (A 5) (L 5) (C 5), .slice (A 6) (L 6) (C 6), .slice (A 7) (L 7) (C 7), .slice (A 8) (L 8) (C 8), .slice (A 9) (L 9) (C 9), .slice (A 10) (L 10) (C 10), .slice (A 11) (L 11) (C 11), .slice (A 12) (L 12) (C 12), .slice (A 13) (L 13) (C 13), .slice (A 14) (L 14) (C 14), .slice (A 15) (L 15) (C 15)]) (.int .i64 ((12 : Nat) : Int))).run Try.prog W = .ok (.slice (A 12) (L 12) (C 12)) W := by kernel_rfl
theorem index16_13 (W : World) (A : Nat → Option Addr) (L C : Nat → Nat) : (Instr.index 105 (.agg #[.slice (A 0) (L 0) (C 0), .slice (A 1) (L 1) (C 1), .slice (A 2) (L 2) (C 2), .slice (A 3) (L 3) (C 3), .slice (A 4) (L 4) (C 4), .slice (A 5) (L 5) (C 5), .slice (A 6) (L 6) (C 6), .slice (A 7) (L 7) (C 7), .slice (A 8) (L 8) (C 8), .slice (A 9) (L 9) (C 9), .slice (A 10) (L 10) (C 10), .slice (A 11) (L 11) (C 11), .slice (A 12) (L 12) (C 12), .slice (A 13) (L 13) (C 13), .slice (A 14) (L 14) (C 14), .slice (A 15) (L 15) (C 15)]) (.int .i64 ((13 : Nat) : Int))).run Try.prog W = .ok (.slice (A 13) (L 13) (C 13)) W := by kernel_rfl
theorem index16_14 (W : World) (A : Nat → Option Addr) (L C : Nat → Nat) : (Instr.index 105 (.agg #[.slice (A 0) (L 0) (C 0), .slice (A 1) (L 1) (C 1), .slice (A 2) (L 2) (C 2), .slice (A 3) (L 3) (C 3), .slice (A 4) (L 4) (C 4), .slice (A 5) (L 5) (C 5), .slice (A 6) (L 6) (C 6), .slice (A 7) (L 7) (C 7), .slice (A 8) (L 8) (C 8), .slice (A 9) (L 9) (C 9), .slice (A 10) (L 10) (C 10), .slice (A 11) (L 11) (C 11), .slice (A 12) (L 12) (C 12), .slice (A 13) (L 13) (C 13), .slice (A 14) (L 14) (C 14), .slice (A 15) (L 15) (C 15)]) (.int .i64 ((14 : Nat) : Int))).run Try.prog W = .ok (.slice (A 14) (L 14) (C 14)) W := by kernel_rfl
theorem index16_15 (W : World) (A : Nat → Option Addr) (L C : Nat → Nat) : (Instr.index 105 (.agg #[.slice (A 0) (L 0) (C 0), .slice (A 1) (L 1) (C 1), .slice (A 2) (L 2) (C 2), .slice (A 3) (L 3) (C 3), .slice (A 4) (L 4) (C 4), .slice (A 5) (L 5) (C 5), .slice (A 6) (L 6) (C 6), .slice (A 7) (L 7) (C 7), .slice (A 8) (L 8) (C 8), .slice (A 9) (L 9) (C 9), .slice (A 10) (L 10) (C 10), .slice (A 11) (L 11) (C 11), .slice (A 12) (L 12) (C 12), .slice (A 13) (L 13) (C 13), .slice (A 14) (L 14) (C 14), .slice (A 15) (L 15) (C 15)]) (.int .i64 ((15 : Nat) : Int))).run Try.prog W = .ok (.slice (A 15) (L 15) (C 15)) W := by kernel_rfl
/-- The names' array as a value, at a variable index. -/
theorem index16 (W : World) (A : Nat → Option Addr) (L C : Nat → Nat) (i : Nat) (hi : i < 16) : (Instr.index 105 (.agg #[.slice (A 0) (L 0) (C 0), .slice (A 1) (L 1) (C 1), .slice (A 2) (L 2) (C 2), .slice (A 3) (L 3) (C 3), .slice (A 4) (L 4) (C 4), .slice (A 5) (L 5) (C 5), .slice (A 6) (L 6) (C 6), .slice (A 7) (L 7) (C 7), .slice (A 8) (L 8) (C 8), .slice (A 9) (L 9) (C 9), .slice (A 10) (L 10) (C 10), .slice (A 11) (L 11) (C 11), .slice (A 12) (L 12) (C 12), .slice (A 13) (L 13) (C 13), .slice (A 14) (L 14) (C 14), .slice (A 15) (L 15) (C 15)]) (.int .i64 i)).run Try.prog W = .ok (.slice (A i) (L i) (C i)) W := by
  have : i = 0 ∨ i = 1 ∨ i = 2 ∨ i = 3 ∨ i = 4 ∨ i = 5 ∨ i = 6 ∨ i = 7 ∨ i = 8 ∨ i = 9 ∨ i = 10 ∨ i = 11 ∨ i = 12 ∨ i = 13 ∨ i = 14 ∨ i = 15 := by omega
  rcases this with rfl | rfl | rfl | rfl | rfl | rfl | rfl | rfl | rfl | rfl | rfl | rfl | rfl | rfl | rfl | rfl
  · exact index16_0 W A L C
  · exact index16_1 W A L C
  · exact index16_2 W A L C
  · exact index16_3 W A L C
  · exact index16_4 W A L C
  · exact index16_5 W A L C
  · exact index16_6 W A L C
  · exact index16_7 W A L C
  · exact index16_8 W A L C
  · exact index16_9 W A L C
  · exact index16_10 W A L C
  · exact index16_11 W A L C
  · exact index16_12 W A L C
  · exact index16_13 W A L C
  · exact index16_14 W A L C
  · exact index16_15 W A L C

/-- Behind 'm.names[m.count] = name; m.count++'. -/
theorem few_add {w w' : World} {mb i n c : Nat} {a : Option Addr} {cs : Array Value} {ok : Nat → Bool} {seen : List (List Int)} {xs : List Int} (hi : seen.length = i) (h15 : i < 16) (hs : cs.size = 51) (ho : Oks cs ok) (h47 : cs[47]? = some (.map none))
    (hn : ∀ j, j < seen.length → (∃ a n c, cs[30 + j]? = some (.slice a n c) ∧ BytesAt w mb a n (seen.getD j [])) ∧ (seen.getD j []).length ≤ 1048576) (hx : BytesAt w mb a n xs) (hxl : n ≤ 1048576) (hb : Below mb w w')
    (hw : w'.heap[mb]? = some (.cells ((cs.setIfInBounds (30 + i) (.slice a n c)).setIfInBounds 46 (.int .i64 ((i : Int) + 1))) 112 (0, 0))) : Mem w' mb ok (seen ++ [xs]) := by
  refine ⟨_, hw, by simpa using hs, fun k hk => ?_, .inl ⟨by simp; omega, ?_, ?_, fun j hj => ?_⟩⟩
  · rw [Array.getElem?_setIfInBounds_ne (by omega), Array.getElem?_setIfInBounds_ne (by omega)]
    exact ho k hk
  · rw [Array.getElem?_setIfInBounds_ne (by omega), Array.getElem?_setIfInBounds_ne (by omega)]
    exact h47
  · rw [Array.getElem?_setIfInBounds_self_of_lt (by simp; omega)]
    simp [hi]
  · simp at hj
    rw [Array.getElem?_setIfInBounds_ne (by omega)]
    rcases Nat.lt_or_ge j i with h | h
    · obtain ⟨⟨a', n', c', e1, e2⟩, e3⟩ := hn j (by omega)
      have : (seen ++ [xs]).getD j [] = seen.getD j [] := by
        simp [List.getD_eq_getElem?_getD, List.getElem?_append_left (show j < seen.length by omega)]
      rw [this]
      exact ⟨⟨a', n', c', by rw [Array.getElem?_setIfInBounds_ne (by omega)]; exact e1, e2.below (Nat.le_refl _) hb⟩, e3⟩
    · obtain rfl : j = i := by omega
      have : (seen ++ [xs]).getD j [] = xs := by
        simp [List.getD_eq_getElem?_getD, ← hi]
      rw [this]
      exact ⟨⟨a, n, c, by rw [Array.getElem?_setIfInBounds_self_of_lt (by omega)], hx.below (Nat.le_refl _) hb⟩, by rw [hx.1]; exact hxl⟩

theorem conv_of {w : World} {M n : Nat} {a : Option Addr} {xs : List Int} (h : BytesAt w M a n xs) (c q : Nat) : (convert 40 9 (.slice a n c)).run Try.prog (w.drewN q) = .ok (.string (strOfNums xs)) (w.drewN q) :=
  BytesAt.conv (w := w.drewN q) (M := M) h c
theorem MapOf.drewN {w : World} {b : Nat} {seen : List (List Int)} (h : MapOf w b seen) (q : Nat) : MapOf (w.drewN q) b seen := h
theorem MapOf.drew {w : World} {b : Nat} {seen : List (List Int)} (h : MapOf w b seen) : MapOf w.drew b seen := h

/-- Behind a store into the map of names. -/
theorem many_add {w w' : World} {mb b : Nat} {cs : Array Value} {ok : Nat → Bool} {seen : List (List Int)} (hb : w.heap[mb]? = some (.cells cs 112 (0, 0))) (hs : cs.size = 51) (ho : Oks cs ok) (h47 : cs[47]? = some (.map (some b))) (hmb : mb < b)
    (hm : MapOf w' b seen) (hg : w.grownBy w' (some b)) : w'.heap[mb]? = some (.cells cs 112 (0, 0)) ∧ Mem w' mb ok seen ∧ Below mb w w' := by
  have hlt := lt_of_block hb
  have e : w'.heap[mb]? = some (.cells cs 112 (0, 0)) := by rw [hg.block mb hlt (by simp; omega)]; exact hb
  exact ⟨e, ⟨cs, e, hs, ho, .inr ⟨b, h47, hmb, hm⟩⟩, (Below.refl mb w).grown hg (by omega) (fun k hk => by cases hk; omega)⟩

set_option maxRecDepth 100000 in
set_option maxHeartbeats 2000000 in
theorem fresh_few (mb : Nat) (ok : Nat → Bool) (seen : List (List Int)) (a : Option Addr) (n c : Nat) (m : Int) (xs : List Int) (cs : Array Value) (w : World) (hm : m < 0) (hn : n ≤ 1048576)
    (hb : w.heap[mb]? = some (.cells cs 112 (0, 0))) (hs : cs.size = 51) (ho : Oks cs ok) (hf : Few w mb cs seen) (hx : BytesAt w mb a n xs) :
    Calls Try.prog 30 #[.pointer (some ⟨mb, 0, none⟩), .slice a n c, .int .i64 m] w fun e w' => ∃ t seen', e = .returned (.bool t) ∧ ((t = false ∧ xs ∈ seen ∧ seen' = seen) ∨ (t = true ∧ ¬ xs ∈ seen ∧ seen' = seen ++ [xs])) ∧ Mem w' mb ok seen' ∧ Below mb w w' := by
  obtain ⟨h16, h47, h46, hnames⟩ := hf
  have c47 := at_cell hb h47
  have c46 := at_cell hb h46
  have HN := (show Hid _ from hnames)
  have HX : Hid (BytesAt w mb a n xs) := hx
  have HO : Hid (Oks cs ok) := ho
  have hlt := lt_of_block hb
  obtain ⟨k, hk⟩ : ∃ k, seen.length = k := ⟨_, rfl⟩
  rw [hk] at c46 h46 h16
  have HK : Hid (seen.length = k) := hk
  have HB := (show Hid _ from hb)
  clear hk hnames hx ho hb
  have hnilm : ∀ W, (binOp .eql 106 (.map none) (.map none)).run Try.prog W = .ok (.bool true) W := fun W => run_eql_map_nil W _ _ _ none Try.underlying106
  have hm' : ¬ (0 : Int) ≤ m := by omega
  go_enter Try.func30, Try.ntmps30
  go_wp2
  have hsl := fun W => slice16 W mb k h16
  go_quiet (fail)
  have HB2 : Hid ((w.drewN nq).heap[mb]? = some (.cells cs 112 (0, 0))) := HB.out
  have HX2 : Hid (BytesAt (w.drewN nq) mb a n xs) := HX.out
  have HN2 : Hid (∀ j, j < seen.length → (∃ a n c, cs[30 + j]? = some (.slice a n c) ∧ BytesAt (w.drewN nq) mb a n (seen.getD j [])) ∧ (seen.getD j []).length ≤ 1048576) := HN.out
  have hbel : Below mb w (w.drewN nq) := below_drewN (Below.refl _ _) _
  replace c47 : (w.drewN nq).cell? ⟨mb, 47, none⟩ = some (.map none) := c47
  replace c46 : (w.drewN nq).cell? ⟨mb, 46, none⟩ = some (.int .i64 k) := c46
  replace hlt : mb < (w.drewN nq).heap.size := hlt
  clear HB HX HN hsl
  generalize w.drewN nq = w1 at *
  go_wp2
  go_loopw [35] (fun c wr => ∃ i : Nat, c = .int .i64 i ∧ i ≤ k ∧ w1 = wr ∧ Hid (∀ j, j < i → seen.getD j [] ≠ xs)) (fun c _ => k - (intOf c).toNat)
  case atStart => exact ⟨0, rfl, Nat.zero_le _, rfl, fun j h => by omega⟩
  case round =>
    obtain ⟨i, rfl, hi, rfl, HD⟩ := hrel
    by_cases hik : i < k
    · obtain ⟨⟨a2, n2, c2, e1, e2⟩, _⟩ := HN2.out i (by rw [HK.out]; exact hik)
      have cn := at_cell HB2.out e1
      have H2 := (show Hid _ from e2)
      clear e1 e2
      have hik' : (i : Int) < (k : Int) := by omega
      go_wp2_with fail
      refine (equal_any a2 a n2 n c2 c mb _ xs _ H2.out HX2.out).mono ?_
      rintro e w2 ⟨rfl, rfl⟩
      by_cases heq : seen.getD i [] = xs
      · rw [decide_eq_true heq]
        have hin : xs ∈ seen := by
          rw [← heq, List.getD_eq_getElem?_getD, List.getElem?_eq_getElem (by rw [HK.out]; exact hik)]
          exact List.getElem_mem _
        go_wp2
        go_ret
        exact ⟨false, seen, rfl, .inl ⟨rfl, hin, rfl⟩, ⟨cs, HB2.out, hs, HO.out, .inl ⟨by rw [HK.out]; exact h16, h47, by rw [HK.out]; exact h46, HN2.out⟩⟩, hbel⟩
      · rw [decide_eq_false heq]
        go_wp2
        go_roundw
        case rel => exact ⟨i + 1, by simp, by omega, trivial, fun j hj => by
          rcases Nat.lt_or_ge j i with h | h
          · exact HD.out j h
          · obtain rfl : j = i := by omega
            exact heq⟩
        case measure => simp [intOf]; omega
    · obtain rfl : i = k := by omega
      have hnot : ¬ xs ∈ seen := fun hin => by
        obtain ⟨j, hj, e⟩ := List.getElem_of_mem hin
        refine HD.out j (by rw [← HK.out]; exact hj) ?_
        rw [List.getD_eq_getElem?_getD, List.getElem?_eq_getElem hj]
        exact e
      by_cases h15 : i < 16
      · have h15' : (i : Int) < 16 := by omega
        obtain ⟨u, hu⟩ : ∃ u, cs[30 + i]? = some u := ⟨_, Array.getElem?_eq_getElem (by omega)⟩
        have cu := at_cell HB2.out hu
        have fu : w1.frozen? ⟨mb, 30 + i, none⟩ = false := at_frozen HB2.out
        clear hu
        go_wp2
        go_region
        have hb3 : ((w1.setCell ⟨mb, 30 + i, none⟩ (.slice a n c)).drew).heap[mb]? = some (.cells (cs.setIfInBounds (30 + i) (.slice a n c)) 112 (0, 0)) := heap_setCell_same w1 mb (30 + i) cs 112 _ HB2.out
        have hbel3 : Below mb w1 (w1.setCell ⟨mb, 30 + i, none⟩ (.slice a n c)).drew := ((Below.refl mb w1).setCell (Nat.le_refl _) _).drew
        have d46 := at_cell (j := 46) (v := .int .i64 i) hb3 (by rw [Array.getElem?_setIfInBounds_ne (by omega)]; exact h46)
        have g46 : ((w1.setCell ⟨mb, 30 + i, none⟩ (.slice a n c)).drew).frozen? ⟨mb, 46, none⟩ = false := at_frozen hb3
        have HB3 := (show Hid _ from hb3)
        clear hb3 cu fu c46 c47
        generalize (w1.setCell ⟨mb, 30 + i, none⟩ (.slice a n c)).drew = w3 at *
        go_wp2
        go_ret
        refine ⟨true, _, rfl, .inr ⟨rfl, hnot, rfl⟩, few_add HK.out h15 hs HO.out h47 HN2.out HX2.out hn (hbel3.setCell (Nat.le_refl _) _) (heap_setCell_same w3 mb 46 _ 112 _ HB3.out), hbel.trans (hbel3.setCell (Nat.le_refl _) _)⟩
      · obtain rfl : i = 16 := by omega
        have hch : ∀ j, j < 16 → ∃ p : Option Addr × Nat × Nat, cs[30 + j]? = some (.slice p.1 p.2.1 p.2.2) ∧ BytesAt w1 mb p.1 p.2.1 (seen.getD j []) := fun j hj => by
          obtain ⟨⟨a', n', c', e1, e2⟩, _⟩ := HN2.out j (by rw [HK.out]; exact hj)
          exact ⟨(a', n', c'), e1, e2⟩
        obtain ⟨V, hV⟩ := Deep.choose_lt hch
        obtain ⟨A, L, C, hV2⟩ : ∃ (A : Nat → Option Addr) (L C : Nat → Nat), ∀ j, j < 16 → cs[30 + j]? = some (.slice (A j) (L j) (C j)) ∧ BytesAt w1 mb (A j) (L j) (seen.getD j []) := ⟨fun j => (V j).1, fun j => (V j).2.1, fun j => (V j).2.2, hV⟩
        have HV := (show Hid _ from hV2)
        clear hch hV hV2 V
        have d30 := at_cell HB2.out (HV.out 0 (by omega)).1
        have d31 := at_cell HB2.out (HV.out 1 (by omega)).1
        have d32 := at_cell HB2.out (HV.out 2 (by omega)).1
        have d33 := at_cell HB2.out (HV.out 3 (by omega)).1
        have d34 := at_cell HB2.out (HV.out 4 (by omega)).1
        have d35 := at_cell HB2.out (HV.out 5 (by omega)).1
        have d36 := at_cell HB2.out (HV.out 6 (by omega)).1
        have d37 := at_cell HB2.out (HV.out 7 (by omega)).1
        have d38 := at_cell HB2.out (HV.out 8 (by omega)).1
        have d39 := at_cell HB2.out (HV.out 9 (by omega)).1
        have d40 := at_cell HB2.out (HV.out 10 (by omega)).1
        have d41 := at_cell HB2.out (HV.out 11 (by omega)).1
        have d42 := at_cell HB2.out (HV.out 12 (by omega)).1
        have d43 := at_cell HB2.out (HV.out 13 (by omega)).1
        have d44 := at_cell HB2.out (HV.out 14 (by omega)).1
        have d45 := at_cell HB2.out (HV.out 15 (by omega)).1
        have hmm := @run_makeMap Try.prog
        have f47 : w1.frozen? ⟨mb, 47, none⟩ = false := at_frozen HB2.out
        go_wp2
        have hsz : (w1.setCell ⟨mb, 47, none⟩ (.map (some w1.heap.size))).heap.size = w1.heap.size := by simp
        obtain ⟨b, hbb⟩ : ∃ b, w1.heap.size = b := ⟨_, rfl⟩
        have hW : ((w1.setCell ⟨mb, 47, none⟩ (.map (some b))).alloc (.map #[] 0)).heap[mb]? = some (.cells (cs.setIfInBounds 47 (.map (some b))) 112 (0, 0)) := by
          rw [Below.heap_alloc _ _ _ (by simpa using hlt)]
          exact heap_setCell_same w1 mb 47 cs 112 _ HB2.out
        have hM : MapOf ((w1.setCell ⟨mb, 47, none⟩ (.map (some b))).alloc (.map #[] 0)) b [] := by
          have h := mapOf_new (w1.setCell ⟨mb, 47, none⟩ (.map (some b)))
          rwa [show (w1.setCell ⟨mb, 47, none⟩ (.map (some b))).heap.size = b by simpa using hbb] at h
        have hB : Below mb w1 ((w1.setCell ⟨mb, 47, none⟩ (.map (some b))).alloc (.map #[] 0)) := ((Below.refl mb w1).setCell (Nat.le_refl _) _).alloc (by simp; omega) _
        have hmb : mb < b := by omega
        obtain ⟨cs2, hcs2⟩ : ∃ cs2, cs2 = cs.setIfInBounds 47 (.map (some b)) := ⟨_, rfl⟩
        rw [← hcs2] at hW
        have hs2 : cs2.size = 51 := by rw [hcs2]; simpa using hs
        have h2 : cs2[47]? = some (.map (some b)) := by rw [hcs2, Array.getElem?_setIfInBounds_self_of_lt (by omega)]
        have HO2 : Hid (Oks cs2 ok) := fun k hk => by rw [hcs2, Array.getElem?_setIfInBounds_ne (by omega)]; exact HO.out k hk
        rw [hbb]
        clear d30 d31 d32 d33 d34 d35 d36 d37 d38 d39 d40 d41 d42 d43 d44 d45 hmm f47 hsz hcs2 c46 c47 h46 h47
        generalize (w1.setCell ⟨mb, 47, none⟩ (.map (some b))).alloc (.map #[] 0) = w2 at *
        go_loopw [72] (fun c wr => ∃ i : Nat, c = .int .i64 i ∧ i ≤ 16 ∧ Hid (wr.heap[mb]? = some (.cells cs2 112 (0, 0))) ∧ Hid (MapOf wr b (seen.take i)) ∧ Below mb w1 wr) (fun c _ => 16 - (intOf c).toNat)
        case atStart => exact ⟨0, rfl, by omega, hW, hM, hB⟩
        case round =>
          clear hW hM hB
          obtain ⟨i, rfl, hi, HW, HM, hB⟩ := hrel
          have c47 := at_cell HW.out h2
          by_cases hi16 : i < 16
          · have hidx := fun W => index16 W A L C i hi16
            have hbt : BytesAt wr.drew mb (A i) (L i) (seen.getD i []) := (HV.out i hi16).2.below (Nat.le_refl _) hB.drew
            have hcv := hbt.conv (C i)
            have hcv2 := BytesAt.conv (w := wr) (M := mb) hbt (C i)
            have hlen : (seen.getD i []).length ≤ 1048576 := (HN2.out i (by rw [HK.out]; exact hi16)).2
            obtain ⟨w5, hup, hm5, hg5⟩ := MapOf.store (w := wr.drew) HM.out (seen.getD i []) hbt.2.1 hlen (by simp; omega)
            clear hbt hlen
            have hi16' : (i : Int) < 16 := by omega
            generalize hstr : strOfNums (seen.getD i []) = s at *
            go_wp2
            go_region
            go_wp2
            obtain ⟨e1, _, e3⟩ := many_add (w := wr.drew) (ok := ok) HW.out hs2 HO2.out h2 hmb hm5 hg5
            have htk : seen.take (i + 1) = seen.take i ++ [seen.getD i []] := by
              rw [List.take_add_one, List.getD_eq_getElem?_getD, List.getElem?_eq_getElem (by rw [HK.out]; exact hi16)]
              rfl
            go_roundw
            case rel => exact ⟨i + 1, by simp, by omega, e1, by rw [htk]; exact hm5, hB.drew.trans e3⟩
            case measure => simp [intOf]; omega
          · obtain rfl : i = 16 := by omega
            have htk : seen.take 16 = seen := List.take_of_length_le (by rw [HK.out]; omega)
            have HM2 : Hid (MapOf wr b seen) := by rw [← htk]; exact HM.out
            have hbx := HX2.out.below (Nat.le_refl _) hB
            have hcv := fun q => conv_of hbx c q
            have hlk := fun q => (HM2.out.drewN q).look xs hbx.2.1 (by rw [hbx.1]; exact hn)
            have hcv0 := hbx.conv c
            have hlk0 := HM2.out.look xs hbx.2.1 (by rw [hbx.1]; exact hn)
            rw [decide_eq_false hnot] at hlk0
            have hlk' : ∀ q, (Instr.lookup 106 (.map (some b)) (.string (strOfNums xs)) false).run Try.prog (wr.drewN q) = .ok (.bool false) (wr.drewN q) := fun q => by rw [hlk q, decide_eq_false hnot]
            clear hlk HM HN2 HV HD htk
            have HBX : Hid (BytesAt wr mb a n xs) := hbx
            have hxl : xs.length ≤ 1048576 := by rw [hbx.1]; exact hn
            have hxb := hbx.2.1
            clear hbx
            go_wp2
            go_quiet (fail)
            have hbw := below_drewN hB nq
            have HB6 : Hid ((wr.drewN nq).heap[mb]? = some (.cells cs2 112 (0, 0))) := HW.out
            have HM6 : Hid (MapOf (wr.drewN nq) b seen) := HM2.out
            have HX6 : Hid (BytesAt (wr.drewN nq) mb a n xs) := HBX.out
            have c6 := at_cell HB6.out h2
            clear hcv hcv0 hlk0 hlk' c47 HM2 HBX HW hB
            generalize wr.drewN nq = w6 at *
            have hcv6 := BytesAt.conv (w := w6.drew) (M := mb) HX6.out c
            obtain ⟨w7, hup, hm7, hg7⟩ := MapOf.store (w := w6.drew) HM6.out xs hxb hxl (by rw [HK.out]; omega)
            go_wp2
            go_region
            go_wp2
            go_ret
            obtain ⟨_, e2, e3⟩ := many_add (w := w6.drew) (ok := ok) HB6.out hs2 HO2.out h2 hmb hm7 hg7
            exact ⟨true, _, rfl, .inr ⟨rfl, hnot, rfl⟩, e2, hbel.trans (hbw.drew.trans e3)⟩

set_option maxRecDepth 100000 in
set_option maxHeartbeats 2000000 in
theorem fresh_many (mb : Nat) (ok : Nat → Bool) (seen : List (List Int)) (a : Option Addr) (n c : Nat) (m : Int) (xs : List Int) (cs : Array Value) (w : World) (hm : m < 0) (hn : n ≤ 1048576) (hsl : seen.length ≤ 8192)
    (hb : w.heap[mb]? = some (.cells cs 112 (0, 0))) (hs : cs.size = 51) (ho : Oks cs ok) (hf : Many w mb cs seen) (hx : BytesAt w mb a n xs) :
    Calls Try.prog 30 #[.pointer (some ⟨mb, 0, none⟩), .slice a n c, .int .i64 m] w fun e w' => ∃ t seen', e = .returned (.bool t) ∧ ((t = false ∧ xs ∈ seen ∧ seen' = seen) ∨ (t = true ∧ ¬ xs ∈ seen ∧ seen' = seen ++ [xs])) ∧ Mem w' mb ok seen' ∧ Below mb w w' := by
  obtain ⟨b, h47, hmb, hM⟩ := hf
  have c47 := at_cell hb h47
  have HX : Hid (BytesAt w mb a n xs) := hx
  have HO : Hid (Oks cs ok) := ho
  have HM : Hid (MapOf w b seen) := hM
  have HB := (show Hid _ from hb)
  have hxl : xs.length ≤ 1048576 := by rw [hx.1]; exact hn
  have HXB : Hid (∀ x ∈ xs, 0 ≤ x ∧ x ≤ 255) := hx.2.1
  have HSL : Hid (seen.length ≤ 8192) := hsl
  clear hx ho hM hb hsl
  have hnilm : ∀ W, (binOp .eql 106 (.map (some b)) (.map none)).run Try.prog W = .ok (.bool false) W := fun W => run_eql_map_nil W _ _ _ (some b) Try.underlying106
  have hm' : ¬ (0 : Int) ≤ m := by omega
  have hcv := fun q => conv_of HX.out c q
  have hcv0 := HX.out.conv c
  obtain ⟨t, ht⟩ : ∃ t, decide (xs ∈ seen) = t := ⟨_, rfl⟩
  have hlk : ∀ q, (Instr.lookup 106 (.map (some b)) (.string (strOfNums xs)) false).run Try.prog (w.drewN q) = .ok (.bool t) (w.drewN q) := fun q => by
    rw [← ht]; exact (HM.out.drewN q).look xs HXB.out hxl
  have hlk0 : (Instr.lookup 106 (.map (some b)) (.string (strOfNums xs)) false).run Try.prog w = .ok (.bool t) w := by
    rw [← ht]; exact HM.out.look xs HXB.out hxl
  go_enter Try.func30, Try.ntmps30
  go_wp2
  go_quiet (fail)
  have hbw : Below mb w (w.drewN nq) := below_drewN (Below.refl _ _) nq
  have HB6 : Hid ((w.drewN nq).heap[mb]? = some (.cells cs 112 (0, 0))) := HB.out
  have HM6 : Hid (MapOf (w.drewN nq) b seen) := HM.out
  have HX6 : Hid (BytesAt (w.drewN nq) mb a n xs) := HX.out
  have c6 := at_cell HB6.out h47
  clear hcv hcv0 hlk0 hlk c47 HM HX HB
  generalize w.drewN nq = w6 at *
  cases t with
  | true =>
    have hin : xs ∈ seen := by simpa using ht
    go_wp2
    go_ret
    exact ⟨false, seen, rfl, .inl ⟨rfl, hin, rfl⟩, ⟨cs, HB6.out, hs, HO.out, .inr ⟨b, h47, hmb, HM6.out⟩⟩, hbw⟩
  | false =>
    have hnot : ¬ xs ∈ seen := by simpa using ht
    have hcv6 := BytesAt.conv (w := w6.drew) (M := mb) HX6.out c
    obtain ⟨w7, hup, hm7, hg7⟩ := MapOf.store (w := w6.drew) HM6.out xs HXB.out hxl HSL.out
    go_wp2
    go_region
    go_wp2
    go_ret
    obtain ⟨_, e2, e3⟩ := many_add (w := w6.drew) (ok := ok) HB6.out hs HO.out h47 hmb hm7 hg7
    exact ⟨true, _, rfl, .inr ⟨rfl, hnot, rfl⟩, e2, hbw.drew.trans e3⟩

/-- fresh at a name that is none of the six. -/
theorem fresh_name (mb : Nat) (ok : Nat → Bool) (seen : List (List Int)) (a : Option Addr) (n c : Nat) (m : Int) (xs : List Int) (w : World) (hm : m < 0) (hn : n ≤ 1048576) (hsl : seen.length ≤ 8192)
    (h : Mem w mb ok seen) (hx : BytesAt w mb a n xs) :
    Calls Try.prog 30 #[.pointer (some ⟨mb, 0, none⟩), .slice a n c, .int .i64 m] w fun e w' => ∃ t seen', e = .returned (.bool t) ∧ ((t = false ∧ xs ∈ seen ∧ seen' = seen) ∨ (t = true ∧ ¬ xs ∈ seen ∧ seen' = seen ++ [xs])) ∧ Mem w' mb ok seen' ∧ Below mb w w' := by
  obtain ⟨cs, hb, hs, ho, hf | hf⟩ := h
  · exact fresh_few mb ok seen a n c m xs cs w hm hn hb hs ho hf hx
  · exact fresh_many mb ok seen a n c m xs cs w hm hn hsl hb hs ho hf hx

theorem zzfresh_name (mb : Nat) (ok : Nat → Bool) (seen : List (List Int)) (a : Option Addr) (n c : Nat) (m : Int) (xs : List Int) (w : World) (hm : m < 0) (hn : n ≤ 1048576) (hsl : seen.length ≤ 8192)
    (h : Mem w mb ok seen) (hx : BytesAt w mb a n xs) :
    Calls Try.prog 24 #[.pointer (some ⟨mb, 0, none⟩), .slice a n c, .int .i64 m] w fun e w' => ∃ t seen', e = .returned (.bool t) ∧ ((t = false ∧ xs ∈ seen ∧ seen' = seen) ∨ (t = true ∧ ¬ xs ∈ seen ∧ seen' = seen ++ [xs])) ∧ Mem w' mb ok seen' ∧ Below mb w w' := by
  go_enter Try.func24, Try.ntmps24
  go_wp2_with fail
  refine (fresh_name mb ok seen a n c m xs _ hm hn hsl h hx).mono ?_
  rintro e w1 ⟨t, seen', rfl, ht, hmem, hb⟩
  go_wp2
  go_ret
  exact ⟨t, seen', rfl, ht, hmem, hb⟩
theorem zzfresh_k (mb k : Nat) (ok : Nat → Bool) (seen : List (List Int)) (a : Option Addr) (n c : Nat) (w : World) (hk : k < 6) (h : Mem w mb ok seen) :
    Calls Try.prog 24 #[.pointer (some ⟨mb, 0, none⟩), .slice a n c, .int .i64 k] w fun e w' => e = .returned (.bool (!ok k)) ∧ w = w' := by
  go_enter Try.func24, Try.ntmps24
  go_wp2_with fail
  refine (fresh_k mb k ok seen _ _ hk h).mono ?_
  rintro e w1 ⟨rfl, rfl⟩
  go_wp2
  go_ret
  exact ⟨rfl, rfl⟩

/-- The members that ZZNewLineMembers makes: no name seen. -/
theorem mem_new {w : World} {mb : Nat} {b0 b1 b2 b3 b4 b5 : Bool} (h : w.heap[mb]? = some (.cells (memCells b0 b1 b2 b3 b4 b5) 112 (0, 0))) (ok : Nat → Bool) (h0 : ok 0 = b0) (h1 : ok 1 = b1) (h2 : ok 2 = b2) (h3 : ok 3 = b3) (h4 : ok 4 = b4) (h5 : ok 5 = b5) : Mem w mb ok [] := by
  refine ⟨_, h, rfl, fun k hk => ?_, .inl ⟨by simp, rfl, rfl, fun j hj => by simp at hj⟩⟩
  have : k = 0 ∨ k = 1 ∨ k = 2 ∨ k = 3 ∨ k = 4 ∨ k = 5 := by omega
  rcases this with rfl | rfl | rfl | rfl | rfl | rfl
  · rw [h0]; rfl
  · rw [h1]; rfl
  · rw [h2]; rfl
  · rw [h3]; rfl
  · rw [h4]; rfl
  · rw [h5]; rfl
end Go.Proofs.Qxb6616519a
