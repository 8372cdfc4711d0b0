/-
  sync/atomic's loads and stores on this road, by their contracts; checkNewName where it finds nothing wrong.
-/
import Derived.Test.Qxb6616350aFmtConv
import Derived.WalkKit
import Derived.WalkSpells
import Derived.Below
import Derived.Laws.LoneSync
namespace Go.Proofs.Qxb6616350aFmt
open Go.RowKit

theorem call_loadp {P : Program} {f : FuncId} {fn : Func} (hf : P.funcs[f]? = some fn) (hname : (fn.name == "runtime.NumGoroutine") = false) (hb : fn.body.isNone = true) (hn : Extern.findNext fn = none)
    (he : Extern.find fn = some (Extern.Atomic.loadT .ptr)) {a : Addr} {x : Option Addr} {w : World} (hc : w.cell? a = some (.pointer x)) :
    (callFunc f #[.pointer (some a)]).run P w = .ok (.value (.pointer x)) w := by
  rw [run_callFunc_extern hf hname hb hn he]
  change (Sem.run P (do Extern.Atomic.read .ptr (← asAddr (.pointer (some a)))) w).andThen _ = _
  simp [Extern.Atomic.read, asAddr, hc, Result.andThen]

theorem call_storep {P : Program} {f : FuncId} {fn : Func} (hf : P.funcs[f]? = some fn) (hname : (fn.name == "runtime.NumGoroutine") = false) (hb : fn.body.isNone = true) (hn : Extern.findNext fn = none)
    (he : Extern.find fn = some Extern.Atomic.storeT) {a : Addr} {y : Option Addr} {u : Value} {w : World} (hc : w.cell? a = some u) (hz : w.frozen? a = false) :
    (callFunc f #[.pointer (some a), .pointer y]).run P w = .ok (.value (.tuple #[])) (w.setCell a (.pointer y)) := by
  rw [run_callFunc_extern hf hname hb hn he]
  change (Sem.run P (do
    store (← asAddr (.pointer (some a))) (.pointer y) .atomic
    pure Extern.Atomic.none_) w).andThen _ = _
  simp [asAddr, hc, hz, run_store P w a (.pointer y) .atomic rfl, Result.andThen, Extern.Atomic.none_]

theorem storeptr (a : Addr) (y : Option Addr) (u : Value) (w : World) (hc : w.cell? a = some u) (hz : w.frozen? a = false) :
    (callFunc 20 #[.pointer (some a), .pointer y]).run Tryf.prog w = .ok (.value (.tuple #[])) (w.setCell a (.pointer y)) :=
  call_storep Tryf.func20 (by kernel_rfl) (by kernel_rfl) (by kernel_rfl) (by kernel_rfl) hc hz
theorem loadptr (a : Addr) (x : Option Addr) (w : World) (hc : w.cell? a = some (.pointer x)) :
    (callFunc 23 #[.pointer (some a)]).run Tryf.prog w = .ok (.value (.pointer x)) w :=
  call_loadp Tryf.func23 (by kernel_rfl) (by kernel_rfl) (by kernel_rfl) (by kernel_rfl) hc
theorem load64 (a : Addr) (x : Int) (w : World) (hc : w.cell? a = some (.int .u64 x)) :
    (callFunc 24 #[.pointer (some a)]).run Tryf.prog w = .ok (.value (.int .u64 x)) w :=
  run_call_load Tryf.func24 (by kernel_rfl) (by kernel_rfl) (by kernel_rfl) .u64 (by kernel_rfl) hc
theorem store32 (a : Addr) (y : Int) (u : Value) (w : World) (hc : w.cell? a = some u) (hz : w.frozen? a = false) :
    (callFunc 25 #[.pointer (some a), .int .u32 y]).run Tryf.prog w = .ok (.value (.tuple #[])) (w.setCell a (.int .u32 y)) :=
  run_call_store Tryf.func25 (by kernel_rfl) (by kernel_rfl) (by kernel_rfl) (by kernel_rfl) hc hz

/-- (*atomic.Pointer[string]).Store -/
theorem store_str (b o : Nat) (y : Nat) (u v : Value) (w : World) (hc : w.cell? ⟨b, o, none⟩ = some u) (hz : w.frozen? ⟨b, o, none⟩ = false) (hy : w.cell? ⟨y, 0, none⟩ = some v) :
    Calls Tryf.prog 12 #[.pointer (some ⟨b, o, none⟩), .pointer (some ⟨y, 0, none⟩)] w fun e w' => e = .returned (.tuple #[]) ∧ w' = w.setCell ⟨b, o, none⟩ (.pointer (some ⟨y, 0, none⟩)) := by
  have h1 := storeptr ⟨b, o, none⟩ (some ⟨y, 0, none⟩) u w hc hz
  have h2 := to_str hy
  go_enter Tryf.func12, Tryf.ntmps12
  go_wp2
  go_end0
  exact ⟨rfl, rfl⟩
theorem store_tab (b o : Nat) (y : Nat) (u v : Value) (w : World) (hc : w.cell? ⟨b, o, none⟩ = some u) (hz : w.frozen? ⟨b, o, none⟩ = false) (hy : w.cell? ⟨y, 0, none⟩ = some v) :
    Calls Tryf.prog 14 #[.pointer (some ⟨b, o, none⟩), .pointer (some ⟨y, 0, none⟩)] w fun e w' => e = .returned (.tuple #[]) ∧ w' = w.setCell ⟨b, o, none⟩ (.pointer (some ⟨y, 0, none⟩)) := by
  have h1 := storeptr ⟨b, o, none⟩ (some ⟨y, 0, none⟩) u w hc hz
  have h2 := to_tab hy
  go_enter Tryf.func14, Tryf.ntmps14
  go_wp2
  go_end0
  exact ⟨rfl, rfl⟩
theorem store_sta (b o : Nat) (y : Nat) (u v : Value) (w : World) (hc : w.cell? ⟨b, o, none⟩ = some u) (hz : w.frozen? ⟨b, o, none⟩ = false) (hy : w.cell? ⟨y, 0, none⟩ = some v) :
    Calls Tryf.prog 21 #[.pointer (some ⟨b, o, none⟩), .pointer (some ⟨y, 0, none⟩)] w fun e w' => e = .returned (.tuple #[]) ∧ w' = w.setCell ⟨b, o, none⟩ (.pointer (some ⟨y, 0, none⟩)) := by
  have h1 := storeptr ⟨b, o, none⟩ (some ⟨y, 0, none⟩) u w hc hz
  have h2 := to_sta hy
  go_enter Tryf.func21, Tryf.ntmps21
  go_wp2
  go_end0
  exact ⟨rfl, rfl⟩
theorem store_u32 (b o : Nat) (y : Int) (u : Value) (w : World) (hc : w.cell? ⟨b, o, none⟩ = some u) (hz : w.frozen? ⟨b, o, none⟩ = false) :
    Calls Tryf.prog 22 #[.pointer (some ⟨b, o, none⟩), .int .u32 y] w fun e w' => e = .returned (.tuple #[]) ∧ w' = w.setCell ⟨b, o, none⟩ (.int .u32 y) := by
  have h1 := store32 ⟨b, o, none⟩ y u w hc hz
  go_enter Tryf.func22, Tryf.ntmps22
  go_wp2
  go_end0
  exact ⟨rfl, rfl⟩

theorem shape_one {w : World} {b : Nat} {v : Value} {t : TypeId} (h : w.heap[b]? = some (.cells #[v] t (0, 0))) : w.shape? b = some (t, 1) := by
  simp [World.shape?, h]

theorem load_tab (b o : Nat) (y : Nat) (v : Value) (w : World) (hc : w.cell? ⟨b, o, none⟩ = some (.pointer (some ⟨y, 0, none⟩))) (hy : w.heap[y]? = some (.cells #[v] 68 (0, 0))) :
    Calls Tryf.prog 15 #[.pointer (some ⟨b, o, none⟩)] w fun e w' => e = .returned (.pointer (some ⟨y, 0, none⟩)) ∧ w = w' := by
  have h1 := loadptr ⟨b, o, none⟩ _ w hc
  have h2 := from_tab y w (shape_one hy)
  go_enter Tryf.func15, Tryf.ntmps15
  go_wp2
  go_ret
  exact ⟨rfl, rfl⟩
theorem load_str (b o : Nat) (y : Nat) (v : Value) (w : World) (hc : w.cell? ⟨b, o, none⟩ = some (.pointer (some ⟨y, 0, none⟩))) (hy : w.heap[y]? = some (.cells #[v] 9 (0, 0))) :
    Calls Tryf.prog 16 #[.pointer (some ⟨b, o, none⟩)] w fun e w' => e = .returned (.pointer (some ⟨y, 0, none⟩)) ∧ w = w' := by
  have h1 := loadptr ⟨b, o, none⟩ _ w hc
  have h2 := from_str y w (shape_one hy)
  go_enter Tryf.func16, Tryf.ntmps16
  go_wp2
  go_ret
  exact ⟨rfl, rfl⟩
theorem load_u64 (b o : Nat) (x : Int) (w : World) (hc : w.cell? ⟨b, o, none⟩ = some (.int .u64 x)) :
    Calls Tryf.prog 17 #[.pointer (some ⟨b, o, none⟩)] w fun e w' => e = .returned (.int .u64 x) ∧ w = w' := by
  have h1 := load64 ⟨b, o, none⟩ x w hc
  go_enter Tryf.func17, Tryf.ntmps17
  go_wp2
  go_ret
  exact ⟨rfl, rfl⟩

/-- checkNewName at a name that is not empty and not in work. -/
theorem check_ok (s : ByteArray) (hs : s.toList.isEmpty = false) (w : World) :
    Calls Tryf.prog 11 #[.string s, .bool false] w fun e w' => e = .returned .nilIface ∧ w = w' := by
  go_enter Tryf.func11, Tryf.ntmps11
  go_wp2

  go_ret
  exact ⟨rfl, rfl⟩
end Go.Proofs.Qxb6616350aFmt
