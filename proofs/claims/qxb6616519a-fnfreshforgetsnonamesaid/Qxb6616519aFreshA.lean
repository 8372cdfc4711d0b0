/-
  The state of a line's members: the names seen so far; the map of names.
-/
import Derived.Test.Qxb6616519aMake
import Derived.Maps.Own
import Derived.Maps.OwnSet
namespace Go.Proofs.Qxb6616519a
open Go.RowKit Go.Maps
set_option maxRecDepth 100000

theorem law9 : Keyed Try.prog 9 := string_keyed Try.underlying9
theorem zero4 (w : World) : (zeroValue 4).run Try.prog w = .ok (.bool false) w := by kernel_rfl

def Byte (xs : List Int) : Prop := ∀ x ∈ xs, 0 ≤ x ∧ x ≤ 255

theorem str_data (xs : List Int) : (strOfNums xs).data.toList = Lib.bytesOf xs := rfl
theorem str_size (xs : List Int) : (strOfNums xs).size = xs.length := strOfNums_size xs

/-- The map: 'true' at the names seen, nothing elsewhere. -/
def MapOf (w : World) (b : Nat) (seen : List (List Int)) : Prop :=
  ∃ D : DataW Unit, w.ownsMap Try.prog 9 (plainElem Try.prog 4) b seen.length D ∧ ∀ xs, Byte xs → D.atKey (.string (Lib.bytesOf xs)) (.lit (.bool false)) = .lit (.bool (decide (xs ∈ seen)))

theorem plain_bool_inv {v : Value} {t : Bool} {ps : List MemPlace} (h : plainElem (H := Unit) Try.prog 4 v = some (.lit (.bool t), ps)) : v = .bool t := by
  cases v <;> simp [plainElem, Try.underlying4] at h
  rw [h.1]

theorem MapOf.look {w : World} {b : Nat} {seen : List (List Int)} (h : MapOf w b seen) (xs : List Int) (hx : Byte xs) (hl : xs.length ≤ 1048576) :
    (Instr.lookup 106 (.map (some b)) (.string (strOfNums xs)) false).run Try.prog w = .ok (.bool (decide (xs ∈ seen))) w := by
  obtain ⟨D, hown, hD⟩ := h
  have hkey : keyOf Try.prog 9 (.string (strOfNums xs)) = some (.string (strOfNums xs).data.toList) := WideMaps.keyOf_string_mk Try.underlying9 (by rw [str_size]; unfold maxLen; omega)
  rw [str_data] at hkey
  have hz : plainElem (H := Unit) Try.prog 4 (.bool false) = some (.lit (.bool false), []) := plainElem_bool Try.underlying4 false
  obtain ⟨v, ps, hrun, hv⟩ := hown.lookup law9 Try.underlying106 (zero4 w) hz hkey
  rw [hD xs hx] at hv
  rw [plain_bool_inv hv] at hrun
  exact hrun

theorem MapOf.store {w : World} {b : Nat} {seen : List (List Int)} (h : MapOf w b seen) (xs : List Int) (hx : Byte xs) (hl : xs.length ≤ 1048576) (hs : seen.length ≤ 8192) :
    ∃ w', (Instr.mapUpdate 106 (.map (some b)) (.string (strOfNums xs)) (.bool true)).run Try.prog w = .ok () w' ∧ MapOf w' b (seen ++ [xs]) ∧ w.grownBy w' (some b) := by
  obtain ⟨D, hown, hD⟩ := h
  have hkey : keyOf Try.prog 9 (.string (strOfNums xs)) = some (.string (strOfNums xs).data.toList) := WideMaps.keyOf_string_mk Try.underlying9 (by rw [str_size]; unfold maxLen; omega)
  rw [str_data] at hkey
  have hz : plainElem (H := Unit) Try.prog 4 (.bool true) = some (.lit (.bool true), []) := plainElem_bool Try.underlying4 true
  obtain ⟨w', hrun, hown', hg⟩ := hown.update law9 Try.underlying106 (by unfold maxLen; omega) hkey hz
  refine ⟨w', hrun, ⟨_, by simpa using hown', fun ys hy => ?_⟩, hg⟩
  by_cases e : (Lit.string (Lib.bytesOf ys)) = .string (Lib.bytesOf xs)
  · rw [e, atKey_put_same hown.isMap (by trivial)]
    have : ys = xs := bytesOf_inj hy hx (by simpa using e)
    simp [this]
  · rw [atKey_put_other e, hD ys hy]
    have : ys ≠ xs := fun h => e (by rw [h])
    simp [this]

theorem mapOf_new (w : World) : MapOf (w.alloc (.map #[] 0)) w.heap.size [] :=
  ⟨.map [], World.ownsMap_made w _ _ _, fun xs _ => by simp [DataW.atKey]⟩
end Go.Proofs.Qxb6616519a
