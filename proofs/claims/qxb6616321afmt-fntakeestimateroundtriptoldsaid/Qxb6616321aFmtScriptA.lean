/-
  PLAIN FACTS for the law of the script: what the blocks hold, how a counter stands behind k takes.
-/
import Derived.Test.Qxb6616321aFmtTake
import Derived.Deep.QuietTactic
import Derived.BigQuiet
import Derived.WalkSmall
namespace Go.Proofs.Qxb6616321aFmt
open Go.RowKit Go.Extern.Stop Go.Stop Go.Extern

/-- The context's block: its two counters. -/
def Ctx (w : World) (cb : Nat) (u d : Int) : Prop := ∃ cs : Array Value, w.heap[cb]? = some (.cells cs 32 (0, 0)) ∧ cs[0]? = some (.int .u32 u) ∧ cs[1]? = some (.int .u32 d)
/-- A block of two uint64. -/
def Pair (w : World) (b : Nat) (x y : Int) : Prop := w.heap[b]? = some (.cells #[.int .u64 x, .int .u64 y] 34 (0, 0))

theorem Ctx.cells {w : World} {cb : Nat} {u d : Int} (h : Ctx w cb u d) : w.cell? ⟨cb, 0, none⟩ = some (.int .u32 u) ∧ w.cell? ⟨cb, 1, none⟩ = some (.int .u32 d) ∧ w.frozen? ⟨cb, 0, none⟩ = false ∧ w.frozen? ⟨cb, 1, none⟩ = false := by
  obtain ⟨cs, hb, h0, h1⟩ := h
  simp [World.cell?, World.frozen?, hb, h0, h1]
theorem Pair.cells {w : World} {b : Nat} {x y : Int} (h : Pair w b x y) : w.cell? ⟨b, 0, none⟩ = some (.int .u64 x) ∧ w.cell? ⟨b, 1, none⟩ = some (.int .u64 y) ∧ w.frozen? ⟨b, 0, none⟩ = false ∧ w.frozen? ⟨b, 1, none⟩ = false := by
  unfold Pair at h
  simp [World.cell?, World.frozen?, h]
theorem Ctx.other {w : World} {cb : Nat} {u d : Int} (h : Ctx w cb u d) (a : Addr) (v : Value) (ha : cb ≠ a.block) : Ctx (w.setCell a v) cb u d := by
  obtain ⟨cs, hb, h0, h1⟩ := h
  exact ⟨cs, by rw [Below.heap_setCell _ _ _ _ ha]; exact hb, h0, h1⟩
theorem Pair.other {w : World} {b : Nat} {x y : Int} (h : Pair w b x y) (a : Addr) (v : Value) (ha : b ≠ a.block) : Pair (w.setCell a v) b x y := by
  unfold Pair at *
  rw [Below.heap_setCell _ _ _ _ ha]; exact h
theorem Ctx.set0 {w : World} {cb : Nat} {u d x : Int} (h : Ctx w cb u d) : Ctx (w.setCell ⟨cb, 0, none⟩ (.int .u32 x)) cb x d := by
  obtain ⟨cs, hb, h0, h1⟩ := h
  have hs : 1 < cs.size := by
    rcases Nat.lt_or_ge 1 cs.size with h | h
    · exact h
    · rw [Array.getElem?_eq_none h] at h1; simp at h1
  refine ⟨_, heap_setCell_same w cb 0 cs 32 (.int .u32 x) hb, ?_, ?_⟩
  · simp [show 0 < cs.size by omega]
  · simp [h1]
theorem Ctx.set1 {w : World} {cb : Nat} {u d x : Int} (h : Ctx w cb u d) : Ctx (w.setCell ⟨cb, 1, none⟩ (.int .u32 x)) cb u x := by
  obtain ⟨cs, hb, h0, h1⟩ := h
  have hs : 1 < cs.size := by
    rcases Nat.lt_or_ge 1 cs.size with h | h
    · exact h
    · rw [Array.getElem?_eq_none h] at h1; simp at h1
  refine ⟨_, heap_setCell_same w cb 1 cs 32 (.int .u32 x) hb, ?_, ?_⟩
  · simp [h0]
  · simp [hs]
theorem Pair.set0 {w : World} {b : Nat} {x y z : Int} (h : Pair w b x y) : Pair (w.setCell ⟨b, 0, none⟩ (.int .u64 z)) b z y := by
  unfold Pair at *
  rw [heap_setCell_same w b 0 _ 34 (.int .u64 z) h]; rfl
theorem Pair.set1 {w : World} {b : Nat} {x y z : Int} (h : Pair w b x y) : Pair (w.setCell ⟨b, 1, none⟩ (.int .u64 z)) b x z := by
  unfold Pair at *
  rw [heap_setCell_same w b 1 _ 34 (.int .u64 z) h]; rfl
theorem Ctx.below {w w' : World} {cb B : Nat} {u d : Int} (h : Ctx w cb u d) (hb : Below B w w') (hc : cb < B) : Ctx w' cb u d := by
  obtain ⟨cs, hh, h0, h1⟩ := h
  exact ⟨cs, by rw [hb.block cb hc]; exact hh, h0, h1⟩
theorem Pair.below {w w' : World} {b B : Nat} {u d : Int} (h : Pair w b u d) (hb : Below B w w') (hc : b < B) : Pair w' b u d := by
  unfold Pair at *
  rw [hb.block b hc]; exact h
theorem Ctx.lt {w : World} {cb : Nat} {u d : Int} (h : Ctx w cb u d) : cb < w.heap.size := by
  obtain ⟨cs, hb, _⟩ := h
  exact lt_of_block hb
theorem Pair.lt {w : World} {b : Nat} {x y : Int} (h : Pair w b x y) : b < w.heap.size := lt_of_block h

/-- A counter that started at s, behind k takes. -/
def Cur (s : Int) (k : Nat) (u : Int) : Prop := (16777215 < s ∧ u = s) ∨ (s ≤ 16777215 ∧ s + k ≤ 16777216 ∧ u = s + k) ∨ (s ≤ 16777215 ∧ 16777216 < s + k ∧ u = 16777216)

theorem below_drewN {B : Nat} {a w : World} (h : Below B a w) (n : Nat) : Below B a (w.drewN n) := h.trans ⟨rfl, rfl, rfl, Nat.le_refl _, fun _ _ => rfl⟩

theorem take0_ok (cb : Nat) (u : Int) (w : World) (c : w.cell? ⟨cb, 0, none⟩ = some (.int .u32 u)) (f : w.frozen? ⟨cb, 0, none⟩ = false) (h0 : 0 ≤ u) (h1 : u ≤ 16777215) :
    Calls Tryf.prog 6 #[.pointer (some ⟨cb, 0, none⟩), .int .u8 0] w fun e w' => e = .returned (.tuple #[.int .u32 u, .nilIface]) ∧ w' = w.setCell ⟨cb, 0, none⟩ (.int .u32 (u + 1)) := zztake_ok cb 0 (.inl rfl) u w c f h0 h1
theorem take1_ok (cb : Nat) (u : Int) (w : World) (c : w.cell? ⟨cb, 1, none⟩ = some (.int .u32 u)) (f : w.frozen? ⟨cb, 1, none⟩ = false) (h0 : 0 ≤ u) (h1 : u ≤ 16777215) :
    Calls Tryf.prog 6 #[.pointer (some ⟨cb, 0, none⟩), .int .u8 1] w fun e w' => e = .returned (.tuple #[.int .u32 u, .nilIface]) ∧ w' = w.setCell ⟨cb, 1, none⟩ (.int .u32 (u + 1)) := zztake_ok cb 1 (.inr rfl) u w c f h0 h1
theorem take0_used (F : Interp) (cb : Nat) (u : Int) (w : World) (hF : F.answers w.tape) (c : w.cell? ⟨cb, 0, none⟩ = some (.int .u32 u)) (h1 : 16777215 < u) :
    Calls Tryf.prog 6 #[.pointer (some ⟨cb, 0, none⟩), .int .u8 0] w fun e w' => ∃ p, e = .returned (.tuple #[.int .u32 0, .iface 52 (.pointer p)]) ∧ Below w.heap.size w w' := zztake_used F cb 0 (.inl rfl) u w hF c h1
theorem take1_used (F : Interp) (cb : Nat) (u : Int) (w : World) (hF : F.answers w.tape) (c : w.cell? ⟨cb, 1, none⟩ = some (.int .u32 u)) (h1 : 16777215 < u) :
    Calls Tryf.prog 6 #[.pointer (some ⟨cb, 0, none⟩), .int .u8 1] w fun e w' => ∃ p, e = .returned (.tuple #[.int .u32 0, .iface 52 (.pointer p)]) ∧ Below w.heap.size w w' := zztake_used F cb 1 (.inr rfl) u w hF c h1

theorem new1 (w : World) (o o' : Obj) : ((w.alloc o).alloc o').heap[w.heap.size + 1]? = some o' := by
  have h := heap_alloc_new (w.alloc o) o'
  rwa [show (w.alloc o).heap.size = w.heap.size + 1 by simp] at h
theorem new2 (w : World) (o o' o'' : Obj) : (((w.alloc o).alloc o').alloc o'').heap[w.heap.size + 1 + 1]? = some o'' := by
  have h := new1 (w.alloc o) o' o''
  rwa [show (w.alloc o).heap.size = w.heap.size + 1 by simp] at h

/-- One turn of direction 0, behind the take: the counts. -/
theorem turn0 {w W : World} {u d up down : Int} {B : Nat} {k0 k1 : Nat} (n : Nat) (hctx : Ctx W B u d) (hs : Pair W (B + 1) up down) (hp : Pair W (B + 1 + 1) k0 k1) (hbel : Below B w W) :
    Ctx ((W.drewN n).setCell ⟨B + 1 + 1, 0, none⟩ (.int .u64 ((k0 : Int) + 1))) B u d ∧ Pair ((W.drewN n).setCell ⟨B + 1 + 1, 0, none⟩ (.int .u64 ((k0 : Int) + 1))) (B + 1) up down ∧ Pair ((W.drewN n).setCell ⟨B + 1 + 1, 0, none⟩ (.int .u64 ((k0 : Int) + 1))) (B + 1 + 1) ((k0 + 1 : Nat) : Int) k1 ∧ Below B w ((W.drewN n).setCell ⟨B + 1 + 1, 0, none⟩ (.int .u64 ((k0 : Int) + 1))) := by
  refine ⟨Ctx.other (w := W.drewN n) hctx _ _ (by simp; omega), Pair.other (w := W.drewN n) hs _ _ (by simp), ?_, (below_drewN hbel n).setCell (by simp; omega) _⟩
  exact Pair.set0 (w := W.drewN n) hp
theorem turn1 {w W : World} {u d up down : Int} {B : Nat} {k0 k1 : Nat} (n : Nat) (hctx : Ctx W B u d) (hs : Pair W (B + 1) up down) (hp : Pair W (B + 1 + 1) k0 k1) (hbel : Below B w W) :
    Ctx ((W.drewN n).setCell ⟨B + 1 + 1, 1, none⟩ (.int .u64 ((k1 : Int) + 1))) B u d ∧ Pair ((W.drewN n).setCell ⟨B + 1 + 1, 1, none⟩ (.int .u64 ((k1 : Int) + 1))) (B + 1) up down ∧ Pair ((W.drewN n).setCell ⟨B + 1 + 1, 1, none⟩ (.int .u64 ((k1 : Int) + 1))) (B + 1 + 1) k0 ((k1 + 1 : Nat) : Int) ∧ Below B w ((W.drewN n).setCell ⟨B + 1 + 1, 1, none⟩ (.int .u64 ((k1 : Int) + 1))) := by
  refine ⟨Ctx.other (w := W.drewN n) hctx _ _ (by simp; omega), Pair.other (w := W.drewN n) hs _ _ (by simp), ?_, (below_drewN hbel n).setCell (by simp; omega) _⟩
  exact Pair.set1 (w := W.drewN n) hp

theorem zzBytes_any (x1 x2 : Value) (a : Option Addr) (n c : Nat) (w : World) (hn : n ≤ maxLen) :
    Calls Tryf.prog 5 #[x1, x2, .slice a n c] w fun e w' => e = .returned (.bool (decide (n ≤ 1048576))) ∧ w = w' := by
  have hn' : n ≤ 9223372036854775807 := by unfold maxLen at hn; omega
  by_cases h : n ≤ 1048576
  · have h1 : ¬ (1048576 : Int) < (n : Int) := by omega
    go_enter Tryf.func5, Tryf.ntmps5
    go_wp2
    go_ret
    exact ⟨by simp, rfl⟩
  · have h1 : (1048576 : Int) < (n : Int) := by omega
    go_enter Tryf.func5, Tryf.ntmps5
    go_wp2
    go_ret
    exact ⟨by simp [h], rfl⟩

theorem early_len (up down : Int) (a : Option Addr) (n c : Nat) (w : World) (hn : n ≤ maxLen) (h : 65536 < n) :
    Calls Tryf.prog 3 #[.int .u32 up, .int .u32 down, .slice a n c] w fun e w' => e = .returned (.bool true) ∧ Below w.heap.size w w' := by
  have h1 : (65536 : Int) < (n : Int) := by omega
  by_cases hz : n ≤ 1048576
  · go_enter Tryf.func3, Tryf.ntmps3
    go_wp2_with fail
    refine (zzBytes_any _ _ a n c _ hn).mono ?_
    rintro e w1 ⟨rfl, rfl⟩
    rw [decide_eq_true hz]
    go_wp2
    go_ret
    exact ⟨rfl, Below.refl _ _⟩
  · go_enter Tryf.func3, Tryf.ntmps3
    go_wp2_with fail
    refine (zzBytes_any _ _ a n c _ hn).mono ?_
    rintro e w1 ⟨rfl, rfl⟩
    rw [decide_eq_false hz]
    go_wp2
    go_ret
    exact ⟨rfl, Below.refl _ _⟩
end Go.Proofs.Qxb6616321aFmt
