/-
  The map of names that NewAnchorSetWithHash fills: what is known of it.
-/
import Derived.Test.Qxb6616350aFmtDist
import Derived.Maps.Own
import Derived.Maps.OwnSet
namespace Go.Proofs.Qxb6616350aFmt
open Go.RowKit Go.Maps

theorem law9 : Keyed Tryf.prog 9 := string_keyed Tryf.underlying9
theorem zero22 (w : World) : (zeroValue 22).run Tryf.prog w = .ok (.int .u32 0) w := by kernel_rfl
theorem info74 : (Tryf.prog.info? 74).map (fun i => (i.zero, i.size, i.bytes)) = some (some (.agg #[.pointer none]), 1, 8) := by kernel_rfl

theorem make74 (W : World) (n : Nat) (hn : n ≤ 4096) : (Instr.makeSlice 66 (.int .i64 n) (.int .i64 n)).run Tryf.prog W = .ok (.slice (some ⟨W.heap.size, 0, none⟩) n n) (W.alloc (.cells (madeCells #[.pointer none] n) 74)) := by
  obtain ⟨i, hi, hz, hs, hb⟩ := info_parts info74
  have h := run_make (P := Tryf.prog) W 66 74 i (.agg #[.pointer none]) Tryf.underlying66 hi hz .i64 .i64 n n (by omega) (Int.le_refl _) (by rw [hb]; omega) (by omega)
  simpa [hs, Value.cells] using h

theorem makeMap_n (W : World) (n : Nat) : (Instr.makeMap 39 (some (.int .i64 n))).run Tryf.prog W = .ok (.map (some W.heap.size)) (W.alloc (.map #[] 0)) := by
  simp [Instr.makeMap, asInt, asIntOf, Result.andThen]

/-- The map holds no name beyond the first i. -/
def MapOf (w : World) (mb i : Nat) (f : Nat → ByteArray) : Prop :=
  ∃ D : DataW Unit, w.ownsMap Tryf.prog 9 (plainElem Tryf.prog 22) mb i D ∧ ∀ s : ByteArray, has D (.string s.data.toList) = true → ∃ j, j < i ∧ f j = s

theorem MapOf.look {w : World} {mb i : Nat} {f : Nat → ByteArray} (h : MapOf w mb i f) (s : ByteArray) (hs : s.size ≤ maxLen) (hf : ∀ j, j < i → f j ≠ s) :
    (Instr.lookup 39 (.map (some mb)) (.string s) true).run Tryf.prog w = .ok (.tuple #[.int .u32 0, .bool false]) w := by
  obtain ⟨D, hown, hD⟩ := h
  have hkey : keyOf Tryf.prog 9 (.string s) = some (.string s.data.toList) := WideMaps.keyOf_string_mk Tryf.underlying9 hs
  have hno : has D (.string s.data.toList) = false := by
    cases e : has D (.string s.data.toList) with
    | false => rfl
    | true =>
      obtain ⟨j, hj, e'⟩ := hD s e
      exact absurd e' (hf j hj)
  have hz : plainElem (H := Unit) Tryf.prog 22 (.int .u32 0) = some (.lit (.int .u32 0), []) := plainElem_int Tryf.underlying22 (by decide)
  obtain ⟨v, ps, hrun, hv⟩ := hown.look_ok law9 Tryf.underlying39 (zero22 w) hz hkey
  rw [hno] at hrun
  have hat : D.atKey (.string s.data.toList) (.lit (.int .u32 0)) = .lit (.int .u32 0) := atKey_of_not_has hno _
  rw [hat] at hv
  obtain ⟨a, rfl, ha, _⟩ := plainElem_int_inv Tryf.underlying22 hv
  simp only [Prod.mk.injEq, DataW.lit.injEq, Lit.int.injEq] at ha
  rw [hrun, ← ha.1.2]

theorem MapOf.store {w : World} {mb i : Nat} {f : Nat → ByteArray} (h : MapOf w mb i f) (s : ByteArray) (hi : i ≤ 4096) (hs : s.size ≤ maxLen) (hf : f i = s) :
    ∃ w', (Instr.mapUpdate 39 (.map (some mb)) (.string s) (.int .u32 i)).run Tryf.prog w = .ok () w' ∧ MapOf w' mb (i + 1) f ∧ w.grownBy w' (some mb) := by
  obtain ⟨D, hown, hD⟩ := h
  have hkey : keyOf Tryf.prog 9 (.string s) = some (.string s.data.toList) := WideMaps.keyOf_string_mk Tryf.underlying9 hs
  have hz : plainElem (H := Unit) Tryf.prog 22 (.int .u32 i) = some (.lit (.int .u32 i), []) := plainElem_int Tryf.underlying22 (WalkArith.wf_u32 (by omega))
  obtain ⟨w', hrun, hown', hg⟩ := hown.update law9 Tryf.underlying39 (by unfold maxLen; omega) hkey hz
  refine ⟨w', hrun, ⟨_, hown', fun t ht => ?_⟩, hg⟩
  by_cases e : (Lit.string t.data.toList) = .string s.data.toList
  · refine ⟨i, by omega, ?_⟩
    rw [hf]
    simp only [Lit.string.injEq, Array.toList_inj] at e
    cases t; cases s; simp_all
  · rw [has_put_other e] at ht
    obtain ⟨j, hj, e'⟩ := hD t ht
    exact ⟨j, by omega, e'⟩
end Go.Proofs.Qxb6616350aFmt
