/-
  THE STATEMENT 'Rows.FnNameAtReadsNamesOfFreshSetToldSaid', PROVED.
-/
import Derived.Test.Qxb6616350aFmtLaw
import Derived.Test.Qxb6616350aFmtTie
import Derived.ProofKit
import Derived.OpenShut
import Derived.OpenVars
import Derived.ChangeOld
import Derived.LaidMore
import Derived.LaidHandle
import Derived.Deep.Strs
import Derived.Deep.DeepWitnessRef
import Derived.Stop.JoinedAt
import Derived.Stop.JoinedTold
import Derived.SevenTiedAt
namespace Go.Proofs.Qxb6616350aFmt.fnNameAt
open Go.ChangeShapes Go.WideShapes Go.ChangeAt Go.RowKit Go.Kit
open Go.Extern.Stop Go.Stop Go.Extern

theorem own : ownKnob Tryf.prog.godebug = none := by kernel_rfl
theorem laidOut : laidOutB Tryf.prog = true := by kernel_rfl

set_option maxHeartbeats 1000000 in
theorem early_len (cap b v : Int) (a : Option Addr) (n c : Nat) (f : Nat → ByteArray) (w : World) (hn : n ≤ maxLen) (h : 4096 < n) (hs : ∀ j, j < n → (f j).size ≤ maxLen) (hl : Lies w a n f) :
    Calls Tryf.prog 3 #[.int .u32 cap, .slice a n c, .int .u32 b, .int .u64 v] w fun e w' => e = .returned (.bool true) ∧ Below w.heap.size w w' := by
  have h1 : (4096 : Int) < (n : Int) := by omega
  have HL : Hid (Lies w a n f) := hl
  have HS := (show Hid _ from hs)
  clear hl hs
  go_enter Tryf.func3, Tryf.ntmps3
  go_wp2_with fail
  refine (zzBytes_any _ _ _ a n c f _ hn HS.out HL.out).mono ?_
  rintro e w1 ⟨t, rfl, rfl, _⟩
  cases t with
  | false =>
    go_wp2
    go_ret
    exact ⟨rfl, Below.refl _ _⟩
  | true =>
    go_wp2
    go_ret
    exact ⟨rfl, Below.refl _ _⟩

/-- What the walk is told of the slice of strings that came in. -/
def IsRow (w : World) (a : Option Addr) (len cap : Nat) (f : Nat → ByteArray) : Prop :=
  (a = none ∧ len = 0 ∧ cap = 0) ∨
  ∃ x, a = some x ∧ len ≤ cap ∧ cap ≤ maxLen ∧ (∀ i, i < len → w.cell? (x.add i) = some (.string (f i)) ∧ (f i).size ≤ maxLen)

theorem walk (a0 : Int) (a1 : Option Addr) (len cap : Nat) (f : Nat → ByteArray) (a2 a3 : Int) (w : World) (w0 : (Lit.int .u32 a0).wf = true) (w1 : IsRow w a1 len cap f) (w2 : (Lit.int .u32 a2).wf = true) :
    Calls Tryf.prog 3 #[.int .u32 a0, .slice a1 len cap, .int .u32 a2, .int .u64 a3] w fun e w' => e = .returned (.bool true) ∧ Below w.heap.size w w' := by
  have b0 := bounds_u32 w0
  have b2 := bounds_u32 w2
  have hlm : len ≤ maxLen := by
    rcases w1 with ⟨_, rfl, _⟩ | ⟨x, _, hlc, hcm, _⟩
    · simp [maxLen]
    · exact Nat.le_trans hlc hcm
  have hs : ∀ j, j < len → (f j).size ≤ maxLen := by
    rcases w1 with ⟨_, rfl, _⟩ | ⟨x, _, _, _, hc⟩
    · intro j hj; omega
    · exact fun j hj => (hc j hj).2
  have h0 : a1 = none → len = 0 ∧ cap = 0 := by
    rcases w1 with ⟨_, rfl, rfl⟩ | ⟨x, rfl, _⟩
    · exact fun _ => ⟨rfl, rfl⟩
    · intro e; cases e
  have hl : Lies w a1 len f := by
    intro hpos
    rcases w1 with ⟨_, rfl, _⟩ | ⟨x, rfl, hlc, hcm, hc⟩
    · omega
    · obtain ⟨bk, off, spot⟩ := x
      have h00 := (hc 0 hpos).1
      have hspot : spot = none := by simpa [Addr.add] using World.cell?_spot h00
      subst hspot
      have hlt : bk < w.heap.size := by simpa [Addr.add] using World.block_lt_of_cell? w _ h00
      refine ⟨bk, off, rfl, hlt, fun j hj => ?_⟩
      have := (hc j hj).1
      rw [add_plain] at this
      exact this
  by_cases c1 : 4096 < len
  · exact early_len a0 a2 a3 a1 len cap f w hlm c1 hs hl
  · exact law_main a0 a2 a3 a1 len cap f w (by omega) b0.1 b0.2 b2.1 b2.2 h0 hs hl

theorem three {H : Type} {enc : TypeId × Value → H} {P : Program} {w : World} {sp : Nat → Bool} {n1 n2 n3 : String} {gs : List (DataW H)} {ps : List MemPlace} (h : DataW.TrodVars enc P w sp [n1, n2, n3] gs ps) : ∃ g1 g2 g3, gs = [g1, g2, g3] := by
  match gs, h with
  | [], h => exact h.elim
  | [_], ⟨_, _, _, _, _, _, _, _, _, _, h, _⟩ => exact h.elim
  | [_, _], ⟨_, _, _, _, _, _, _, _, _, _, ⟨_, _, _, _, _, _, _, _, _, _, h, _⟩, _⟩ => exact h.elim
  | [g1, g2, g3], _ => exact ⟨g1, g2, g3, rfl⟩
  | _ :: _ :: _ :: _ :: _, ⟨_, _, _, _, _, _, _, _, _, _, ⟨_, _, _, _, _, _, _, _, _, _, ⟨_, _, _, _, _, _, _, _, _, _, h, _⟩, _⟩, _⟩ => exact h.elim

theorem door_met (os : Os) (args : Array Value) : laidMetH Tryf.prog Rows.fnNameAtReadsNamesOfFreshSetRow.laid ((World.doorLaid Tryf.prog 66 os).forCall (fun _ _ => 0) ⟨#[], args, []⟩).memory :=
  laidMetH_of_parts3 (fuel := 8) (laidMet_of_run' 8 (by kernel_rfl) (by kernel_rfl)) (by kernel_rfl) (by kernel_rfl)

set_option maxRecDepth 100000 in
theorem lifted (os : Os) (started : os.Started) (H : Type) (enc : TypeId × Value → H) :
    ReturnsInTold none {} Tryf.checked os 3 .any Input.okWide ((OpenSpec.ofChange Rows.fnNameAtReadsNamesOfFreshSetSpec).preRow enc Tryf.prog Tryf.f3 [] false Rows.fnNameAtReadsNamesOfFreshSetRow.laid) (fun F => ((OpenSpec.ofChange Rows.fnNameAtReadsNamesOfFreshSetSpec).at F).post enc Tryf.prog Tryf.f3 false true false false) (aloneAtReturn Tryf.prog) nothingAlways := by
  refine returnsInTold_of_row (C := Tryf.checked) (s := OpenSpec.ofChange Rows.fnNameAtReadsNamesOfFreshSetSpec) (by kernel_rfl) own started (by kernel_rfl) Tryf.func3
    (OpenSpec.witness_stopped_atRef (enc := enc) (C := Tryf.checked) false (World.doorLaid Tryf.prog 66 os) #[.int .u32 0, .slice none 0 0, .int .u32 0, .int .u64 0] rfl (by kernel_rfl) (by kernel_rfl) (by kernel_rfl)
      (OpenSpec.preRow_of_B rfl 8 (by kernel_rfl) (by kernel_rfl) (door_met os _))) ?_
  intro F W base args ds gs before _ hF hval0 hW _ _ _ _ _
  have hval : ∀ (j : Nat) t v, Tryf.f3.params[j]? = some t → args[j]? = some v → Value.okWide Tryf.prog W .any base t v := hval0
  have hW' := hW
  obtain ⟨p, q, hA0, hV0, rfl, hfz, hnd⟩ := hW
  have hA : DataW.TrodAll enc Tryf.prog W 0 (fun _ => true) true Tryf.f3.params.toList args.toList ds p := hA0
  have hV : DataW.TrodVars enc Tryf.prog W (fun _ => true) Rows.fnNameAtReadsNamesOfFreshSetSpec.vars gs q := hV0
  rw [Tryf.params3] at hA hval
  obtain ⟨v0, vs0, d0, ds0, p0, q0, hargs, rfl, rfl, h0, r0⟩ := trodAll_cons hA
  obtain ⟨v1, vs1, d1, ds1, p1, q1, rfl, rfl, rfl, h1, r1⟩ := trodAll_cons r0
  obtain ⟨v2, vs2, d2, ds2, p2, q2, rfl, rfl, rfl, h2, r2⟩ := trodAll_cons r1
  obtain ⟨v3, vs3, d3, ds3, p3, q3, rfl, rfl, rfl, h3, r3⟩ := trodAll_cons r2
  obtain ⟨rfl, rfl, rfl⟩ := trodAll_nil r3
  obtain rfl : args = #[v0, v1, v2, v3] := by cases args; simp_all
  obtain ⟨g1, g2, g3, rfl⟩ := three hV
  obtain ⟨a0, rfl, rfl, rfl, w0⟩ := open_int Tryf.underlying22 (hval 0 22 v0 rfl rfl) h0
  obtain ⟨a1, len1, cap1, rfl⟩ := okWide_slice Tryf.underlying23 (hval 1 23 v1 rfl rfl)
  have k1 := h1
  have lt1 : ∀ x ∈ p1, x.block < W.heap.size := by obtain ⟨m, hm⟩ := k1; exact DataW.trod_lt m _ _ _ hm
  obtain ⟨f, w1⟩ : ∃ f, IsRow W a1 len1 cap1 f := by
    obtain ⟨fuel, hf⟩ := h1
    rcases Go.Deep.open_strs Tryf.underlying23 Tryf.underlying9 (by kernel_rfl) hf with ⟨hcs, _⟩ | ⟨x, l, c, m, Sx, hcs, _, hl, hm, hmm, _, hcell⟩
    · simp [Value.cells] at hcs
      obtain ⟨rfl, rfl, rfl⟩ := hcs
      exact ⟨fun _ => ⟨#[]⟩, .inl ⟨rfl, rfl, rfl⟩⟩
    · simp [Value.cells] at hcs
      obtain ⟨rfl, rfl, rfl⟩ := hcs
      exact ⟨Sx, .inr ⟨_, rfl, hl, hm, fun i hi => hcell i (by rw [hmm]; split <;> omega)⟩⟩
  obtain ⟨a2, rfl, rfl, rfl, w2⟩ := open_int Tryf.underlying22 (hval 2 22 v2 rfl rfl) h2
  obtain ⟨a3, rfl, rfl, rfl, w3⟩ := open_int Tryf.underlying24 (hval 3 24 v3 rfl rfl) h3
  clear hA0 hval0
  refine (walk a0 a1 len1 cap1 f a2 a3 W w0 w1 w2).mono fun e W' ⟨he, bel⟩ => ?_
  subst he
  exact ⟨_, rfl, _, _, _, [], _, _, hW', trodAll_mk1 (shut_bool Tryf.underlying4 _), (trodAll_cons_mk (shut_int Tryf.underlying22 w0) (trodAll_cons_mk (Below.trod laidOut (by kernel_rfl) (of_decide_eq_true (by kernel_rfl)) k1 bel lt1) (trodAll_cons_mk (shut_int Tryf.underlying22 w2) (trodAll_cons_mk (shut_int Tryf.underlying24 w3) trodAll_mk0)))), Below.trodVars laidOut bel (by kernel_rfl) hV, bel.frame _, fun h => by cases h⟩

theorem laidOut' : laidOutB Tryf.pinned.checked.prog = true := by kernel_rfl
theorem stops : Tryf.pinned.checked.prog.stops = ["fmt.errorf"] := by kernel_rfl
theorem stopKnobs : Tryf.pinned.checked.prog.stopKnobs = [] := by kernel_rfl
theorem quiet (os : Os) : Stop.quiet Tryf.pinned.checked.prog os := by
  intro k hk
  rw [stopKnobs] at hk
  cases hk

/-- THE STATEMENT. -/
theorem proved : Rows.FnNameAtReadsNamesOfFreshSetToldSaid :=
  Claim7.holds_of_told_tied_any_at .later 3 Tryf.f3 "fmt.errorf" [] [] _ _ _ _ _ (by kernel_rfl) rfl rfl rfl laidOut' (by kernel_rfl) rfl ⟨rfl, rfl, rfl, rfl, rfl, rfl, rfl⟩ rfl rfl (by kernel_rfl) (by kernel_rfl) Tryf.func3 (by kernel_rfl)
    (of_decide_eq_true (by kernel_rfl)) (of_decide_eq_true (by kernel_rfl)) stops.symm rfl stopKnobs.symm (by kernel_rfl)
    (by kernel_rfl) (by kernel_rfl) (by kernel_rfl) (by kernel_rfl) (by kernel_rfl) (by kernel_rfl) (by kernel_rfl) (by kernel_rfl) (by kernel_rfl) rfl (by kernel_rfl) rfl rfl
    rfl rfl
    rfl (by kernel_rfl) (by kernel_rfl) (by kernel_rfl) (by decide) (by kernel_rfl) fnNameAtReadsNamesOfFreshSet_row_tie
    (OpenClaim.moreEntering_of (by kernel_rfl) (by kernel_rfl) (by kernel_rfl) (by kernel_rfl) (by kernel_rfl) (by kernel_rfl) (by kernel_rfl) (by kernel_rfl) (by kernel_rfl) (by kernel_rfl))
    ⟨_, WideRow.started_initial, quiet _⟩
    (fun os started _ H enc _ => lifted os started H enc)
#print axioms proved
end Go.Proofs.Qxb6616350aFmt.fnNameAt
