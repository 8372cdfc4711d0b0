/-
  What the arguments of this seat's laws read as: opened.
-/
import Derived.Test.Qxb6616519aFresh
import Derived.ProofKit
import Derived.OpenShut
import Derived.ShutString
import Derived.ChangeOld
import Derived.Below
import Derived.Deep.Slices
namespace Go.Proofs.Qxb6616519a
open Go.ChangeShapes Go.WideShapes Go.ChangeAt Go.RowKit
set_option maxRecDepth 100000

theorem own : ownKnob Try.prog.godebug = none := by kernel_rfl
theorem laidOut : laidOutB Try.prog = true := by kernel_rfl

/-- A slice of bytes that came in. -/
theorem bytes_open {H : Type} {enc : TypeId × Value → H} {W : World} {fuel : Nat} {held : Bool} {v : Value} {x : DataW H × List MemPlace} (hf : DataW.trod enc Try.prog W 0 (fun _ => true) held fuel 40 [v] = some x) :
    ∃ a n c xs, v = .slice a n c ∧ n ≤ maxLen ∧ (a = none → n = 0 ∧ c = 0) ∧ BytesAt W W.heap.size a n xs := by
  rcases open_ints Try.underlying40 Try.underlying5 (by kernel_rfl) hf with ⟨hcs, _⟩ | ⟨y, l, c, zs, hcs, _, hl, hm, hz, _, hcell, hwz⟩
  · simp at hcs
    exact ⟨none, 0, 0, [], hcs, by simp [maxLen], fun _ => ⟨rfl, rfl⟩, rfl, fun x hx => by simp at hx, fun h => by omega⟩
  · simp at hcs
    have hzl : zs.length = c := by simpa using hz
    refine ⟨some y, l, c, zs.take l, hcs, by omega, (fun e => by cases e), by rw [List.length_take]; omega, fun x hx => bounds_u8 (hwz x (List.mem_of_mem_take hx)), fun hpos => ?_⟩
    obtain ⟨bk, off, spot⟩ := y
    have h00 := hcell 0 (by omega)
    have hspot : spot = none := by simpa [Addr.add] using World.cell?_spot h00
    subst hspot
    have hlt : bk < W.heap.size := by simpa [Addr.add] using World.block_lt_of_cell? W _ h00
    refine ⟨bk, off, rfl, hlt, fun j hj => ?_⟩
    have := hcell j (by omega)
    rw [add_plain] at this
    rw [this]
    simp only [List.getD_eq_getElem?_getD, List.getElem?_take]
    rw [if_pos hj]

theorem list6 {α : Type} : ∀ (l : List α), l.length = 6 → ∃ a b c d e f, l = [a, b, c, d, e, f]
  | [a, b, c, d, e, f], _ => ⟨a, b, c, d, e, f, rfl⟩

theorem cells37 : Try.prog.cellsOf 37 = 6 := by kernel_rfl
theorem cells4 : Try.prog.cellsOf 4 = 1 := by kernel_rfl

/-- An array of six bools by value. -/
theorem six_bools {H : Type} {enc : TypeId × Value → H} {W : World} {r : Reach} {base : Nat} {v : Value} {d : DataW H} {ps : List MemPlace} (hval : Value.okWide Try.prog W r base 37 v) (hd : DataW.Trod enc Try.prog W 0 (fun _ => true) true 37 v d ps) :
    ∃ b0 b1 b2 b3 b4 b5, v = .agg #[.bool b0, .bool b1, .bool b2, .bool b3, .bool b4, .bool b5] := by
  obtain ⟨cs, rfl, hsz, _⟩ : ∃ cs, v = .agg cs ∧ cs.size = Try.prog.cellsOf 37 ∧ Row.okWide Try.prog W r base 37 cs := by
    simpa [Value.okWide, Try.underlying37] using hval
  rw [cells37] at hsz
  obtain ⟨l⟩ := cs
  obtain ⟨c0, c1, c2, c3, c4, c5, rfl⟩ := list6 l (by simpa using hsz)
  obtain ⟨fuel, hf⟩ := hd
  obtain ⟨xs, m, _, _, _, hxl, hel⟩ := DataW.trod_array Try.underlying37 hf
  rw [cells4] at hel
  have get : ∀ i, i < 6 → ∀ c, ((Value.agg #[c0, c1, c2, c3, c4, c5]).cells.toList.drop (i * 1)).take 1 = [c] → ∃ b, c = .bool b := by
    intro i hi c hc
    have h1 := hel i hi
    rw [hc, List.getElem?_eq_getElem (by omega)] at h1
    obtain ⟨b, e, _⟩ := DataW.trod_bool Try.underlying4 h1
    exact ⟨b, by simpa using e⟩
  obtain ⟨b0, rfl⟩ := get 0 (by omega) c0 (by simp [Value.cells])
  obtain ⟨b1, rfl⟩ := get 1 (by omega) c1 (by simp [Value.cells])
  obtain ⟨b2, rfl⟩ := get 2 (by omega) c2 (by simp [Value.cells])
  obtain ⟨b3, rfl⟩ := get 3 (by omega) c3 (by simp [Value.cells])
  obtain ⟨b4, rfl⟩ := get 4 (by omega) c4 (by simp [Value.cells])
  obtain ⟨b5, rfl⟩ := get 5 (by omega) c5 (by simp [Value.cells])
  exact ⟨b0, b1, b2, b3, b4, b5, rfl⟩
end Go.Proofs.Qxb6616519a
