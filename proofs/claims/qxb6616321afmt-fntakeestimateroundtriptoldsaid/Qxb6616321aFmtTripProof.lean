/-
  THE STATEMENT 'Rows.FnTakeEstimateRoundTripToldSaid', PROVED.
-/
import Derived.Test.Qxb6616321aFmtTrip
import Derived.ProofKit
import Derived.OpenShut
import Derived.ChangeOld
import Derived.Stop.JoinedAt
import Derived.Stop.Texts
import Derived.Stop.ErrReads
import Derived.Stop.JoinedTold
import Derived.SevenToldRow
namespace Go.Proofs.Qxb6616321aFmt.fnTakeEstimateRoundTrip
open Go.ChangeShapes Go.WideShapes Go.ChangeAt Go.RowKit Go.Kit
open Go.Extern.Stop Go.Stop Go.Extern

theorem own : ownKnob Tryf.prog.godebug = none := by kernel_rfl

theorem walk (F : Interp) (a0 a1 a2 a3 : Int) (w : World) (hF : F.answers w.tape) (w0 : (Lit.int .u32 a0).wf = true) (w1 : (Lit.int .u32 a1).wf = true) (w2 : (Lit.int .u8 a2).wf = true) (w3 : (Lit.int .u32 a3).wf = true) :
    Calls Tryf.prog 4 #[.int .u32 a0, .int .u32 a1, .int .u8 a2, .int .u32 a3] w fun e w' => e = .returned (.bool true) ∧ Below w.heap.size w w' := by
  have b0 := bounds_u32 w0
  have b1 := bounds_u32 w1
  have b2 := bounds_u8 w2
  have b3 := bounds_u32 w3
  by_cases c1 : 1 < a2
  · exact early_dir a0 a1 a3 a2 w c1
  have hz : a2 = 0 ∨ a2 = 1 := by omega
  rcases hz with rfl | rfl
  · by_cases c2 : a0 < a3
    · exact early_above0 a0 a1 a3 w c2
    by_cases c3 : 255 < a0 - a3
    · exact early_far0 a0 a1 a3 w b0.2 b3.1 (by omega) c3
    by_cases c4 : a0 ≤ 16777215
    · exact law0_ok F a0 a1 a3 w hF b0.1 b0.2 b1.1 b1.2 b3.1 (by omega) (by omega) c4
    · exact law0_used F a0 a1 a3 w hF b0.1 b0.2 b1.1 b1.2 b3.1 (by omega) (by omega) (by omega)
  · by_cases c2 : a1 < a3
    · exact early_above1 a0 a1 a3 w c2
    by_cases c3 : 255 < a1 - a3
    · exact early_far1 a0 a1 a3 w b1.2 b3.1 (by omega) c3
    by_cases c4 : a1 ≤ 16777215
    · exact law1_ok F a0 a1 a3 w hF b0.1 b0.2 b1.1 b1.2 b3.1 (by omega) (by omega) c4
    · exact law1_used F a0 a1 a3 w hF b0.1 b0.2 b1.1 b1.2 b3.1 (by omega) (by omega) (by omega)

set_option maxRecDepth 100000 in
theorem lifted (os : Os) (started : os.Started) (H : Type) (enc : TypeId × Value → H) :
    ReturnsInTold none {} Tryf.checked os 4 .any Input.okWide ((OpenSpec.ofChange Rows.fnTakeEstimateRoundTripSpec).preRow enc Tryf.prog Tryf.f4 [] false []) (fun F => ((OpenSpec.ofChange Rows.fnTakeEstimateRoundTripSpec).at F).post enc Tryf.prog Tryf.f4 false true false false) (aloneAtReturn Tryf.prog) nothingAlways := by
  refine returnsInTold_of_row (C := Tryf.checked) (s := OpenSpec.ofChange Rows.fnTakeEstimateRoundTripSpec) (by kernel_rfl) own started (by kernel_rfl) Tryf.func4
    (OpenSpec.witness_stopped (enc := enc) (C := Tryf.checked) false ⟨#[], #[.int .u32 0, .int .u32 0, .int .u8 0, .int .u32 0], []⟩ 8 (by kernel_rfl) (by kernel_rfl) (by kernel_rfl) (by kernel_rfl)) ?_
  intro F W base args ds gs before _ hF hval0 hW _ _ _ _ _
  have hval : ∀ (j : Nat) t v, Tryf.f4.params[j]? = some t → args[j]? = some v → Value.okWide Tryf.prog W .any base t v := hval0
  have hW' := hW
  obtain ⟨p, q, hA0, hV, rfl, hfz, hnd⟩ := hW
  have hA : DataW.TrodAll enc Tryf.prog W 0 (fun _ => true) true Tryf.f4.params.toList args.toList ds p := hA0
  rw [Tryf.params4] at hA hval
  obtain ⟨v0, vs0, d0, ds0, p0, q0, hargs, rfl, rfl, h0, r0⟩ := trodAll_cons hA
  obtain ⟨v1, vs1, d1, ds1, p1, q1, rfl, rfl, rfl, h1, r1⟩ := trodAll_cons r0
  obtain ⟨v2, vs2, d2, ds2, p2, q2, rfl, rfl, rfl, h2, r2⟩ := trodAll_cons r1
  obtain ⟨v3, vs3, d3, ds3, p3, q3, rfl, rfl, rfl, h3, r3⟩ := trodAll_cons r2
  obtain ⟨rfl, rfl, rfl⟩ := trodAll_nil r3
  obtain rfl : args = #[v0, v1, v2, v3] := by cases args; simp_all
  obtain ⟨rfl, rfl⟩ := trodVars_none hV
  obtain ⟨a0, rfl, rfl, rfl, w0⟩ := open_int Tryf.underlying22 (hval 0 22 v0 rfl rfl) h0
  obtain ⟨a1, rfl, rfl, rfl, w1⟩ := open_int Tryf.underlying22 (hval 1 22 v1 rfl rfl) h1
  obtain ⟨a2, rfl, rfl, rfl, w2⟩ := open_int Tryf.underlying5 (hval 2 5 v2 rfl rfl) h2
  obtain ⟨a3, rfl, rfl, rfl, w3⟩ := open_int Tryf.underlying22 (hval 3 22 v3 rfl rfl) h3
  clear hA0 hval0
  refine (walk F.told a0 a1 a2 a3 W hF w0 w1 w2 w3).mono fun e W' ⟨he, bel⟩ => ?_
  subst he
  exact ⟨_, rfl, _, _, _, [], _, [], hW', trodAll_mk1 (shut_bool Tryf.underlying4 _), (trodAll_cons_mk (shut_int Tryf.underlying22 w0) (trodAll_cons_mk (shut_int Tryf.underlying22 w1) (trodAll_cons_mk (shut_int Tryf.underlying5 w2) (trodAll_cons_mk (shut_int Tryf.underlying22 w3) trodAll_mk0)))), rfl, bel.frame _, fun h => by cases h⟩

theorem laidOut' : laidOutB Tryf.pinned.checked.prog = true := by kernel_rfl
theorem stops : Tryf.pinned.checked.prog.stops = Rows.fnTakeEstimateRoundTripRow.stops := by kernel_rfl
theorem stopKnobs : Tryf.pinned.checked.prog.stopKnobs = [] := by kernel_rfl
theorem quiet (os : Os) : Stop.quiet Tryf.pinned.checked.prog os := by
  intro k hk
  rw [stopKnobs] at hk
  cases hk

/-- THE STATEMENT. -/
theorem proved : Rows.FnTakeEstimateRoundTripToldSaid :=
  Claim7.holds_of_told_any 4 Tryf.f4 _ _ [] _ _ _ (by kernel_rfl) rfl rfl rfl laidOut' (by kernel_rfl) rfl ⟨rfl, rfl, rfl, rfl, rfl, rfl, rfl⟩ rfl rfl (by kernel_rfl) (by kernel_rfl) Tryf.func4 (by kernel_rfl)
    (of_decide_eq_true (by kernel_rfl)) (of_decide_eq_true (by kernel_rfl)) stops.symm rfl stopKnobs.symm (by kernel_rfl)
    (by kernel_rfl) (by kernel_rfl) (by kernel_rfl) (by kernel_rfl) (by kernel_rfl) (by kernel_rfl) (by kernel_rfl) (by kernel_rfl) (by kernel_rfl) rfl (by kernel_rfl) rfl rfl
    rfl rfl
    rfl (by kernel_rfl) (by kernel_rfl) (by kernel_rfl) (by decide) (by kernel_rfl)
    (OpenClaim.moreEntering_of (by kernel_rfl) (by kernel_rfl) (by kernel_rfl) (by kernel_rfl) (by kernel_rfl) (by kernel_rfl) (by kernel_rfl) (by kernel_rfl) (by kernel_rfl) (by kernel_rfl))
    ⟨_, WideRow.started_initial, quiet _⟩
    (fun os started _ H enc _ => lifted os started H enc)
#print axioms proved
end Go.Proofs.Qxb6616321aFmt.fnTakeEstimateRoundTrip
