/-
  THE STATEMENT 'Rows.FnFreshForgetsNoNameSaid', PROVED.
-/
import Derived.Test.Qxb6616519aForget
import Derived.Test.Qxb6616519aOpen
namespace Go.Proofs.Qxb6616519a.fnFreshForgetsNoName
open Go.ChangeShapes Go.WideShapes Go.ChangeAt Go.RowKit
set_option linter.unusedVariables false

set_option maxRecDepth 100000 in
set_option maxHeartbeats 1000000 in
theorem early_len (a : Option Addr) (n c : Nat) (A : Nat → Option Addr) (L C : Nat → Nat) (w : World) (hn : n ≤ maxLen) (h : 4096 < n) (hs : ∀ j, j < n → L j ≤ maxLen) (hl : Names w w.heap.size a n A L C) :
    Calls Try.prog 6 #[.slice a n c] w fun e w' => e = .returned (.bool true) ∧ Below w.heap.size w w' := by
  have h1 : (4096 : Int) < (n : Int) := by omega
  have HL := (show Hid _ from hl)
  have HS := (show Hid _ from hs)
  clear hl hs
  go_enter Try.func6, Try.ntmps6
  go_wp2_with fail
  refine (zzNames_any a n c A L C _ hn HS.out HL.out).mono ?_
  rintro e w1 ⟨t, rfl, rfl, _⟩
  cases t with
  | false =>
    go_wp2
    go_ret
    exact ⟨rfl, Below.refl _ _⟩
  | true =>
    go_wp2
    go_ret
    exact ⟨rfl, Below.refl _ _⟩

/-- What the walk is told of the names that came in. -/
def IsNames (w : World) (a : Option Addr) (n : Nat) (A : Nat → Option Addr) (L C : Nat → Nat) (X : Nat → List Int) : Prop :=
  Names w w.heap.size a n A L C ∧ ∀ j, j < n → L j ≤ maxLen ∧ (A j = none → L j = 0 ∧ C j = 0) ∧ BytesAt w w.heap.size (A j) (L j) (X j)

theorem walk (a : Option Addr) (n c : Nat) (A : Nat → Option Addr) (L C : Nat → Nat) (X : Nat → List Int) (w : World) (hn : n ≤ maxLen) (h : IsNames w a n A L C X) :
    Calls Try.prog 6 #[.slice a n c] w fun e w' => e = .returned (.bool true) ∧ Below w.heap.size w w' := by
  by_cases c1 : 4096 < n
  · exact early_len a n c A L C w hn c1 (fun j hj => (h.2 j hj).1) h.1
  · exact forget_main a n c A L C X w (by omega) (fun j hj => (h.2 j hj).1) (fun j hj => (h.2 j hj).2.1) h.1 (fun j hj => (h.2 j hj).2.2)

theorem names_open {H : Type} {enc : TypeId × Value → H} {W : World} {fuel : Nat} {a : Option Addr} {len cap : Nat} {x : DataW H × List MemPlace} (hf : DataW.trod enc Try.prog W 0 (fun _ => true) true fuel 43 (Value.slice a len cap).cells.toList = some x) :
    len ≤ maxLen ∧ ∃ A L C X, IsNames W a len A L C X := by
  rcases Deep.open_slice1 Try.underlying43 (by kernel_rfl) hf with ⟨hcs, _⟩ | ⟨ad, l, cp, m, q, V, D, Pl, hcs, _, hl, hm, hmm, _, hcell⟩
  · simp [Value.cells] at hcs
    obtain ⟨rfl, rfl, rfl⟩ := hcs
    exact ⟨by simp [maxLen], fun _ => none, fun _ => 0, fun _ => 0, fun _ => [], fun h => by omega, fun j hj => by omega⟩
  · simp [Value.cells] at hcs
    obtain ⟨rfl, rfl, rfl⟩ := hcs
    simp only [if_true] at hmm
    subst hmm
    have each : ∀ i, i < len → ∃ p : Option Addr × Nat × Nat × List Int, V i = .slice p.1 p.2.1 p.2.2.1 ∧ p.2.1 ≤ maxLen ∧ (p.1 = none → p.2.1 = 0 ∧ p.2.2.1 = 0) ∧ BytesAt W W.heap.size p.1 p.2.1 p.2.2.2 := by
      intro i hi
      obtain ⟨_, e3⟩ := hcell i (by omega)
      obtain ⟨a', n', c', xs, r1, r2, r3, r4⟩ := bytes_open e3
      exact ⟨(a', n', c', xs), r1, r2, r3, r4⟩
    obtain ⟨U, hU⟩ := Deep.choose_lt each
    refine ⟨by omega, fun j => (U j).1, fun j => (U j).2.1, fun j => (U j).2.2.1, fun j => (U j).2.2.2, fun hpos => ?_, fun j hj => ⟨(hU j hj).2.1, (hU j hj).2.2.1, (hU j hj).2.2.2⟩⟩
    obtain ⟨bk, off, spot⟩ := ad
    have h00 := (hcell 0 (by omega)).1
    have hspot : spot = none := by simpa [Addr.add] using World.cell?_spot h00
    subst hspot
    have hlt : bk < W.heap.size := by simpa [Addr.add] using World.block_lt_of_cell? W _ h00
    refine ⟨bk, off, rfl, hlt, fun j hj => ?_⟩
    obtain ⟨e1, _⟩ := hcell j (by omega)
    rw [add_plain] at e1
    rw [(hU j hj).1] at e1
    exact e1

set_option maxRecDepth 100000 in
theorem lifted (os : Os) (started : os.Started) (H : Type) (enc : TypeId × Value → H) :
    ReturnsInHanded {} Try.checked os 6 .any (Rows.fnFreshForgetsNoNameSpec.pre6 enc Try.prog Try.f6 Rows.fnFreshForgetsNoNameRow.domain false) (Rows.fnFreshForgetsNoNameSpec.post enc Try.prog Try.f6 false true false false) := by
  refine returnsInHanded_of_change (C := Try.checked) own started (by kernel_rfl) Try.func6
    (ChangeSpec.witness6 (enc := enc) (C := Try.checked) false ⟨#[], #[.slice none 0 0], []⟩ 8 (by kernel_rfl) (by kernel_rfl) (by kernel_rfl) (by kernel_rfl)) ?_
  intro W base args ds gs before hval0 hW hcnd _
  have hval : ∀ (j : Nat) t v, Try.f6.params[j]? = some t → args[j]? = some v → Value.okWide Try.prog W .any base t v := hval0
  have hW' := hW
  obtain ⟨p, q, hA0, hV, rfl, hfz, hnd⟩ := hW
  have hA : DataW.TrodAll enc Try.prog W 0 (fun _ => true) true Try.f6.params.toList args.toList ds p := hA0
  rw [Try.params6] at hA hval
  obtain ⟨v0, vs0, d0, ds0, p0, q0, hargs, rfl, rfl, h0, r0⟩ := trodAll_cons hA
  obtain ⟨rfl, rfl, rfl⟩ := trodAll_nil r0
  obtain rfl : args = #[v0] := by cases args; simp_all
  obtain ⟨rfl, rfl⟩ := trodVars_none hV
  obtain ⟨a0, len0, cap0, rfl⟩ := okWide_slice Try.underlying43 (hval 0 43 v0 rfl rfl)
  have k0 := h0
  have lt0 : ∀ x ∈ p0, x.block < W.heap.size := by obtain ⟨m, hm⟩ := k0; exact DataW.trod_lt m _ _ _ hm
  obtain ⟨hlen, A, L, C, X, w1⟩ : len0 ≤ maxLen ∧ ∃ A L C X, IsNames W a0 len0 A L C X := by
    obtain ⟨fuel, hf⟩ := h0
    exact names_open hf
  clear hA0 hval0
  refine (walk a0 len0 cap0 A L C X W hlen w1).mono fun e W' ⟨he, bel⟩ => ?_
  subst he
  exact ⟨_, rfl, _, _, _, [], _, [], hW', trodAll_mk1 (shut_bool Try.underlying4 _), (trodAll_cons_mk (Below.trod laidOut (by kernel_rfl) (of_decide_eq_true (by kernel_rfl)) k0 bel lt0) trodAll_mk0), rfl, bel.frame _, fun h => by cases h⟩

theorem over : Rows.fnFreshForgetsNoNameRow.holds Try.pinned (OpenSpec.ofChange Rows.fnFreshForgetsNoNameSpec) :=
  OpenClaim.holds_of_wide 6 Try.f6 rfl rfl rfl rfl rfl rfl rfl ⟨rfl, rfl, rfl, rfl, rfl⟩ rfl rfl rfl rfl rfl (by kernel_rfl) Try.func6 (by kernel_rfl)
    (of_decide_eq_true (by kernel_rfl)) (by unfold Func.isWrapper; first | (rw [if_pos (by decide +kernel)]; kernel_rfl) | (rw [if_neg (by decide +kernel)]; exact ⟨rfl, rfl⟩))
    (fun os started H enc _ => lifted os started H enc)

/-- THE STATEMENT. -/
theorem proved : Rows.FnFreshForgetsNoNameSaid := over
#print axioms proved
end Go.Proofs.Qxb6616519a.fnFreshForgetsNoName
