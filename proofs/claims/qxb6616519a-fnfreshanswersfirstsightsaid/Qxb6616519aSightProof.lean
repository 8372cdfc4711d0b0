/-
  THE STATEMENT 'Rows.FnFreshAnswersFirstSightSaid', PROVED.
-/
import Derived.Test.Qxb6616519aSight
import Derived.Test.Qxb6616519aOpen
import Derived.Deep.SlicePairs
namespace Go.Proofs.Qxb6616519a.fnFreshAnswersFirstSight
open Go.ChangeShapes Go.WideShapes Go.ChangeAt Go.RowKit
set_option linter.unusedVariables false

set_option maxRecDepth 100000 in
set_option maxHeartbeats 1000000 in
theorem early_len (b0 b1 b2 b3 b4 b5 : Bool) (a : Option Addr) (n c : Nat) (A : Nat → Option Addr) (L C : Nat → Nat) (K : Nat → Int) (w : World) (hn : n ≤ maxLen) (h : 4096 < n) (hs : ∀ j, j < n → L j ≤ maxLen) (hl : Script w a n A L C K) :
    Calls Try.prog 5 #[.agg #[.bool b0, .bool b1, .bool b2, .bool b3, .bool b4, .bool b5], .slice a n c] w fun e w' => e = .returned (.bool true) ∧ Below w.heap.size w w' := by
  have h1 : (4096 : Int) < (n : Int) := by omega
  have hbel := (Below.refl w.heap.size w).alloc (Nat.le_refl _) (.cells #[.bool b0, .bool b1, .bool b2, .bool b3, .bool b4, .bool b5] 37)
  have hsc : Script (w.alloc (.cells #[.bool b0, .bool b1, .bool b2, .bool b3, .bool b4, .bool b5] 37)) a n A L C K := hl.below (Nat.le_refl _) hbel
  have hsz0 : w.heap.size ≤ (w.alloc (.cells #[.bool b0, .bool b1, .bool b2, .bool b3, .bool b4, .bool b5] 37)).heap.size := by simp
  have HSC := (show Hid _ from hsc)
  have HS := (show Hid _ from hs)
  clear hl hs hsc
  go_enter Try.func5, Try.ntmps5
  go_wp2_with fail
  generalize w.alloc (.cells #[.bool b0, .bool b1, .bool b2, .bool b3, .bool b4, .bool b5] 37) = w0 at *
  refine (zzBytes_any b0 b1 b2 b3 b4 b5 a n c A L C K _ hn HS.out HSC.out).mono ?_
  rintro e w1 ⟨t, rfl, hb1, _⟩
  have hbw1 := hbel.trans (hb1.mono hsz0)
  cases t with
  | false =>
    go_wp2
    go_ret
    exact ⟨rfl, hbw1⟩
  | true =>
    go_wp2
    go_ret
    exact ⟨rfl, hbw1⟩

/-- What the walk is told of the script that came in. -/
def IsScript (w : World) (a : Option Addr) (n : Nat) (A : Nat → Option Addr) (L C : Nat → Nat) (K : Nat → Int) (X : Nat → List Int) : Prop :=
  Script w a n A L C K ∧ ∀ j, j < n → L j ≤ maxLen ∧ (A j = none → L j = 0 ∧ C j = 0) ∧ BytesAt w w.heap.size (A j) (L j) (X j)

theorem walk (b0 b1 b2 b3 b4 b5 : Bool) (a : Option Addr) (n c : Nat) (A : Nat → Option Addr) (L C : Nat → Nat) (K : Nat → Int) (X : Nat → List Int) (w : World) (hn : n ≤ maxLen) (h : IsScript w a n A L C K X) :
    Calls Try.prog 5 #[.agg #[.bool b0, .bool b1, .bool b2, .bool b3, .bool b4, .bool b5], .slice a n c] w fun e w' => e = .returned (.bool true) ∧ Below w.heap.size w w' := by
  by_cases c1 : 4096 < n
  · exact early_len b0 b1 b2 b3 b4 b5 a n c A L C K w hn c1 (fun j hj => (h.2 j hj).1) h.1
  · exact law_main b0 b1 b2 b3 b4 b5 a n c A L C K X w (by omega) (fun j hj => (h.2 j hj).1) (fun j hj => (h.2 j hj).2.1) h.1 (fun j hj => (h.2 j hj).2.2)

theorem script_open {H : Type} {enc : TypeId × Value → H} {W : World} {fuel : Nat} {a : Option Addr} {len cap : Nat} {x : DataW H × List MemPlace} (hf : DataW.trod enc Try.prog W 0 (fun _ => true) true fuel 38 (Value.slice a len cap).cells.toList = some x) :
    len ≤ maxLen ∧ ∃ A L C K X, IsScript W a len A L C K X := by
  rcases Deep.open_slice_pairs Try.underlying38 Try.underlying42 (by kernel_rfl) rfl rfl (by kernel_rfl) (by kernel_rfl) hf with ⟨hcs, _⟩ | ⟨ad, l, cp, m, q, V0, V1, D0, D1, P0, P1, hcs, _, hl, hm, hmm, _, hcell⟩
  · simp [Value.cells] at hcs
    obtain ⟨rfl, rfl, rfl⟩ := hcs
    exact ⟨by simp [maxLen], fun _ => none, fun _ => 0, fun _ => 0, fun _ => 0, fun _ => [], fun h => by omega, fun j hj => by omega⟩
  · simp [Value.cells] at hcs
    obtain ⟨rfl, rfl, rfl⟩ := hcs
    simp only [if_true] at hmm
    subst hmm
    have each : ∀ i, i < len → ∃ p : Option Addr × Nat × Nat × Int × List Int, V0 i = .slice p.1 p.2.1 p.2.2.1 ∧ V1 i = .int .i64 p.2.2.2.1 ∧ p.2.1 ≤ maxLen ∧ (p.1 = none → p.2.1 = 0 ∧ p.2.2.1 = 0) ∧ BytesAt W W.heap.size p.1 p.2.1 p.2.2.2.2 := by
      intro i hi
      obtain ⟨_, _, e3, e4⟩ := hcell i (by omega)
      obtain ⟨a', n', c', xs, r1, r2, r3, r4⟩ := bytes_open e3
      obtain ⟨k, r5, _, _⟩ := DataW.trod_int Try.underlying3 e4
      exact ⟨(a', n', c', k, xs), r1, by simpa using r5, r2, r3, r4⟩
    obtain ⟨V, hV⟩ := Deep.choose_lt each
    refine ⟨by omega, fun j => (V j).1, fun j => (V j).2.1, fun j => (V j).2.2.1, fun j => (V j).2.2.2.1, fun j => (V j).2.2.2.2, fun hpos => ?_, fun j hj => ⟨(hV j hj).2.2.1, (hV j hj).2.2.2.1, (hV j hj).2.2.2.2⟩⟩
    obtain ⟨bk, off, spot⟩ := ad
    have h00 := (hcell 0 (by omega)).1
    have hspot : spot = none := by simpa [Addr.add] using World.cell?_spot h00
    subst hspot
    have hlt : bk < W.heap.size := by simpa [Addr.add] using World.block_lt_of_cell? W _ h00
    refine ⟨bk, off, rfl, hlt, fun j hj => ?_⟩
    obtain ⟨e1, e2, _, _⟩ := hcell j (by omega)
    rw [add_plain] at e1 e2
    rw [(hV j hj).1] at e1
    rw [(hV j hj).2.1] at e2
    exact ⟨e1, e2⟩

set_option maxRecDepth 100000 in
theorem lifted (os : Os) (started : os.Started) (H : Type) (enc : TypeId × Value → H) :
    ReturnsInHanded {} Try.checked os 5 .any (Rows.fnFreshAnswersFirstSightSpec.pre6 enc Try.prog Try.f5 Rows.fnFreshAnswersFirstSightRow.domain false) (Rows.fnFreshAnswersFirstSightSpec.post enc Try.prog Try.f5 false true false false) := by
  refine returnsInHanded_of_change (C := Try.checked) own started (by kernel_rfl) Try.func5
    (ChangeSpec.witness6 (enc := enc) (C := Try.checked) false ⟨#[], #[.agg #[.bool false, .bool false, .bool false, .bool false, .bool false, .bool false], .slice none 0 0], []⟩ 8 (by kernel_rfl) (by kernel_rfl) (by kernel_rfl) (by kernel_rfl)) ?_
  intro W base args ds gs before hval0 hW hcnd _
  have hval : ∀ (j : Nat) t v, Try.f5.params[j]? = some t → args[j]? = some v → Value.okWide Try.prog W .any base t v := hval0
  have hW' := hW
  obtain ⟨p, q, hA0, hV, rfl, hfz, hnd⟩ := hW
  have hA : DataW.TrodAll enc Try.prog W 0 (fun _ => true) true Try.f5.params.toList args.toList ds p := hA0
  rw [Try.params5] at hA hval
  obtain ⟨v0, vs0, d0, ds0, p0, q0, hargs, rfl, rfl, h0, r0⟩ := trodAll_cons hA
  obtain ⟨v1, vs1, d1, ds1, p1, q1, rfl, rfl, rfl, h1, r1⟩ := trodAll_cons r0
  obtain ⟨rfl, rfl, rfl⟩ := trodAll_nil r1
  obtain rfl : args = #[v0, v1] := by cases args; simp_all
  obtain ⟨rfl, rfl⟩ := trodVars_none hV
  have k0 := h0
  have lt0 : ∀ x ∈ p0, x.block < W.heap.size := by obtain ⟨m, hm⟩ := k0; exact DataW.trod_lt m _ _ _ hm
  obtain ⟨b0, b1, b2, b3, b4, b5, rfl⟩ := six_bools (hval 0 37 v0 rfl rfl) h0
  obtain ⟨a1, len1, cap1, rfl⟩ := okWide_slice Try.underlying38 (hval 1 38 v1 rfl rfl)
  have k1 := h1
  have lt1 : ∀ x ∈ p1, x.block < W.heap.size := by obtain ⟨m, hm⟩ := k1; exact DataW.trod_lt m _ _ _ hm
  obtain ⟨hlen, A, L, C, K, X, w1⟩ : len1 ≤ maxLen ∧ ∃ A L C K X, IsScript W a1 len1 A L C K X := by
    obtain ⟨fuel, hf⟩ := h1
    exact script_open hf
  clear hA0 hval0
  refine (walk b0 b1 b2 b3 b4 b5 a1 len1 cap1 A L C K X W hlen w1).mono fun e W' ⟨he, bel⟩ => ?_
  subst he
  exact ⟨_, rfl, _, _, _, [], _, [], hW', trodAll_mk1 (shut_bool Try.underlying4 _), (trodAll_cons_mk (Below.trod laidOut (by kernel_rfl) (of_decide_eq_true (by kernel_rfl)) k0 bel lt0) (trodAll_cons_mk (Below.trod laidOut (by kernel_rfl) (of_decide_eq_true (by kernel_rfl)) k1 bel lt1) trodAll_mk0)), rfl, bel.frame _, fun h => by cases h⟩

theorem over : Rows.fnFreshAnswersFirstSightRow.holds Try.pinned (OpenSpec.ofChange Rows.fnFreshAnswersFirstSightSpec) :=
  OpenClaim.holds_of_wide 5 Try.f5 rfl rfl rfl rfl rfl rfl rfl ⟨rfl, rfl, rfl, rfl, rfl⟩ rfl rfl rfl rfl rfl (by kernel_rfl) Try.func5 (by kernel_rfl)
    (of_decide_eq_true (by kernel_rfl)) (by unfold Func.isWrapper; first | (rw [if_pos (by decide +kernel)]; kernel_rfl) | (rw [if_neg (by decide +kernel)]; exact ⟨rfl, rfl⟩))
    (fun os started H enc _ => lifted os started H enc)

/-- THE STATEMENT. -/
theorem proved : Rows.FnFreshAnswersFirstSightSaid := over
#print axioms proved
end Go.Proofs.Qxb6616519a.fnFreshAnswersFirstSight
