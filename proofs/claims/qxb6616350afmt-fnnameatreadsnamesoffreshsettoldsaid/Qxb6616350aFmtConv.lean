/-
  A pointer carried through the type of pointers without a type, and back: what the model's conversion gives where the block is known.
-/
import Derived.Test.Qxb6616350aFmtCards
import Derived.WalkKit
import Derived.WalkSpells
import Derived.Below
import Derived.Laws.LoneSync
namespace Go.Proofs.Qxb6616350aFmt
open Go.RowKit

theorem size9 : (Tryf.prog.info? 9).map (fun i => decide (i.size = 0)) = some false := by kernel_rfl
theorem size68 : (Tryf.prog.info? 68).map (fun i => decide (i.size = 0)) = some false := by kernel_rfl
theorem size91 : (Tryf.prog.info? 91).map (fun i => decide (i.size = 0)) = some false := by kernel_rfl

theorem conv71 (a : Addr) (w : World) : (convert 71 54 (.pointer (some a))).run Tryf.prog w = Sem.run Tryf.prog (do
    let s ← Conv.seenAt a
    let nothing := match ← cellsIn s.block with
      | some cells => s.off ≥ cells && s.spot.isNone
      | none => false
    if (← sizeOf 9) = 0 || nothing then pure (.pointer (some ⟨← newObj (.view s 9), 0, none⟩)) else
    pure (.pointer (some s))) w := by kernel_rfl
theorem conv60 (a : Addr) (w : World) : (convert 60 54 (.pointer (some a))).run Tryf.prog w = Sem.run Tryf.prog (do
    let s ← Conv.seenAt a
    let nothing := match ← cellsIn s.block with
      | some cells => s.off ≥ cells && s.spot.isNone
      | none => false
    if (← sizeOf 68) = 0 || nothing then pure (.pointer (some ⟨← newObj (.view s 68), 0, none⟩)) else
    pure (.pointer (some s))) w := by kernel_rfl
theorem conv52 (a : Addr) (w : World) : (convert 52 54 (.pointer (some a))).run Tryf.prog w = Sem.run Tryf.prog (do
    let s ← Conv.seenAt a
    let nothing := match ← cellsIn s.block with
      | some cells => s.off ≥ cells && s.spot.isNone
      | none => false
    if (← sizeOf 91) = 0 || nothing then pure (.pointer (some ⟨← newObj (.view s 91), 0, none⟩)) else
    pure (.pointer (some s))) w := by kernel_rfl

theorem there (t : TypeId) (hsz : (Tryf.prog.info? t).map (fun i => decide (i.size = 0)) = some false) {a : Addr} {v : Value} {w : World} (hc : w.cell? a = some v) : Sem.run Tryf.prog (do
    let s ← Conv.seenAt a
    let nothing := match ← cellsIn s.block with
      | some cells => s.off ≥ cells && s.spot.isNone
      | none => false
    if (← sizeOf t) = 0 || nothing then pure (Value.pointer (some ⟨← newObj (.view s t), 0, none⟩)) else
    pure (Value.pointer (some s))) w = .ok (Value.pointer (some a)) w := by
  obtain ⟨e, n, hsh, hlt, hsp⟩ := World.shape?_of_cell? hc
  obtain ⟨i, hi, hz0⟩ := Option.map_eq_some_iff.1 hsz
  have hz : i.size ≠ 0 := by simpa using hz0
  have hge : ¬ (n ≤ a.off) := by omega
  simp [Conv.seenAt, viewAt, cellsIn, sizeOf, typeInfo, hi, hz, hsh, hge, Result.andThen]

theorem to_str {a : Addr} {v : Value} {w : World} (hc : w.cell? a = some v) : (convert 71 54 (.pointer (some a))).run Tryf.prog w = .ok (.pointer (some a)) w := (conv71 a w).trans (there 9 size9 hc)
theorem to_tab {a : Addr} {v : Value} {w : World} (hc : w.cell? a = some v) : (convert 60 54 (.pointer (some a))).run Tryf.prog w = .ok (.pointer (some a)) w := (conv60 a w).trans (there 68 size68 hc)
theorem to_sta {a : Addr} {v : Value} {w : World} (hc : w.cell? a = some v) : (convert 52 54 (.pointer (some a))).run Tryf.prog w = .ok (.pointer (some a)) w := (conv52 a w).trans (there 91 size91 hc)

/-- The tree of questions, answered: the program's and those for a block's shape. -/
def feed {α : Type} (P : Program) (sh : Option (TypeId × Nat)) : Nat → Sem α → Sem α
  | 0, t => t
  | n + 1, .program k => feed P sh n (k P)
  | n + 1, .shape _ k => feed P sh n (k sh)
  | _ + 1, t => t
/-- The blocks that are asked for. -/
def asks {α : Type} (P : Program) (sh : Option (TypeId × Nat)) : Nat → Sem α → List Nat
  | 0, _ => []
  | n + 1, .program k => asks P sh n (k P)
  | n + 1, .shape r k => r :: asks P sh n (k sh)
  | _ + 1, _ => []

theorem run_feed {α : Type} (P : Program) (sh : Option (TypeId × Nat)) (w : World) : ∀ (n : Nat) (t : Sem α), (∀ r ∈ asks P sh n t, w.shape? r = sh) → (feed P sh n t).run P w = t.run P w
  | 0, _, _ => rfl
  | n + 1, t, h => by
    cases t with
    | program k => exact run_feed P sh w n (k P) h
    | shape r k =>
      have e : w.shape? r = sh := h r (by simp [asks])
      refine (run_feed P sh w n (k sh) fun r' hr => h r' (by simp [asks, hr])).trans ?_
      show (k sh).run P w = (k (w.shape? r)).run P w
      rw [e]
    | _ => rfl

theorem asks60 (b : Nat) : asks Tryf.prog (some (68, 1)) 40 (convert 54 60 (.pointer (some ⟨b, 0, none⟩))) = [b, b] := by kernel_rfl
theorem feed60 (b : Nat) : feed Tryf.prog (some (68, 1)) 40 (convert 54 60 (.pointer (some ⟨b, 0, none⟩))) = .pure (.pointer (some ⟨b, 0, none⟩)) := by kernel_rfl
theorem asks71 (b : Nat) : asks Tryf.prog (some (9, 1)) 40 (convert 54 71 (.pointer (some ⟨b, 0, none⟩))) = [b, b] := by kernel_rfl
theorem feed71 (b : Nat) : feed Tryf.prog (some (9, 1)) 40 (convert 54 71 (.pointer (some ⟨b, 0, none⟩))) = .pure (.pointer (some ⟨b, 0, none⟩)) := by kernel_rfl

theorem from_tab (b : Nat) (w : World) (h : w.shape? b = some (68, 1)) : (convert 54 60 (.pointer (some ⟨b, 0, none⟩))).run Tryf.prog w = .ok (.pointer (some ⟨b, 0, none⟩)) w := by
  rw [← run_feed Tryf.prog (some (68, 1)) w 40 _ (by rw [asks60]; simp [h]), feed60]
  rfl
theorem from_str (b : Nat) (w : World) (h : w.shape? b = some (9, 1)) : (convert 54 71 (.pointer (some ⟨b, 0, none⟩))).run Tryf.prog w = .ok (.pointer (some ⟨b, 0, none⟩)) w := by
  rw [← run_feed Tryf.prog (some (9, 1)) w 40 _ (by rw [asks71]; simp [h]), feed71]
  rfl
end Go.Proofs.Qxb6616350aFmt
