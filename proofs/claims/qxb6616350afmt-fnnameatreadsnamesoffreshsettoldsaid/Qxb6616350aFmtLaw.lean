/-
  THE WALK of the law FnNameAtReadsNamesOfFreshSet.
-/
import Derived.Test.Qxb6616350aFmtNew
import Derived.Laws.CopyOwn
import Derived.Deep.DeepCutAuto
namespace Go.Proofs.Qxb6616350aFmt
open Go.RowKit Go.Maps

theorem info9' : (Tryf.prog.info? 9).map (fun i => (i.zero, i.size, i.bytes)) = some (some (.string ⟨#[]⟩), 1, 16) := by kernel_rfl
theorem one9 : (Tryf.prog.info? 9).map (·.size) = some 1 := by kernel_rfl

theorem make9 (W : World) (n : Nat) (hn : n ≤ 4096) : (Instr.makeSlice 23 (.int .i64 n) (.int .i64 n)).run Tryf.prog W = .ok (.slice (some ⟨W.heap.size, 0, none⟩) n n) (W.alloc (.cells (madeCells #[.string ⟨#[]⟩] n) 9)) := by
  obtain ⟨i, hi, hz, hs, hb⟩ := info_parts info9'
  have h := run_make (P := Tryf.prog) W 23 9 i (.string ⟨#[]⟩) Tryf.underlying23 hi hz .i64 .i64 n n (by omega) (Int.le_refl _) (by rw [hb]; omega) (by omega)
  simpa [hs, Value.cells] using h

theorem lies_copy {w : World} {g n : Nat} {f : Nat → ByteArray} {cur : List Value} (hc : cur.length = n) (h : w.heap[g]? = some (.cells (splice cur 0 ((List.range n).map fun j => Value.string (f j))).toArray 9 (0, 0))) : Lies w (some ⟨g, 0, none⟩) n f := by
  intro hn
  refine ⟨g, 0, rfl, lt_of_block h, fun j hj => ?_⟩
  simp only [World.cell?]
  rw [h]
  have hd : List.drop n cur = [] := List.drop_eq_nil_of_le (by omega)
  simp [splice, hd, hj]

theorem Lies.below {w w' : World} {B n : Nat} {a : Option Addr} {f : Nat → ByteArray} (h : Lies w a n f) (hB : w.heap.size ≤ B) (hb : Below B w w') : Lies w' a n f := by
  intro hn
  obtain ⟨b, off, e, hlt, hc⟩ := h hn
  exact ⟨b, off, e, Nat.lt_of_lt_of_le hlt hb.size, fun j hj => (hb.cell (Nat.lt_of_lt_of_le hlt hB)).trans (hc j hj)⟩

theorem copy9 (w w0 : World) (g : Nat) (ad : Addr) (n c : Nat) (cur cs : List Value) (B : Nat) (hg : w.heap[g]? = some (.cells cur.toArray 9 (0, 0))) (hcs : cs.length = n) (hfit : cur.length = n)
    (hsrc : 0 < n → ∀ j v, cs[j]? = some v → w.cell? (ad.add j) = some v) (h1 : ∀ v ∈ cs, v.oneCell' = true) (hb : Below B w0 w) (hBg : B ≤ g) :
    ∃ w', (Builtin.copy_ #[23, 23] 3 #[.slice (some ⟨g, 0, none⟩) n n, .slice (some ad) n c]).run Tryf.prog w = .ok (goInt n) w' ∧ w'.heap[g]? = some (.cells (splice cur 0 cs).toArray 9 (0, 0)) ∧ Below B w0 w' := by
  by_cases h0 : n = 0
  · subst h0
    obtain rfl : cs = [] := List.eq_nil_of_length_eq_zero hcs
    exact ⟨w, run_copy_none (P := Tryf.prog) w 23 23 3 9 _ _ _ _ _ _ Tryf.underlying23 one9 (by simp), by simpa [splice] using hg, hb⟩
  · have hrun := run_copy_row (P := Tryf.prog) w 23 23 3 9 g 0 n n ad n c cur.toArray 9 cs Tryf.underlying23 one9 hg (by rw [hcs]; simp) (hsrc (by omega)) (by simp; omega) h1
    rw [hcs] at hrun
    exact ⟨_, hrun, by simpa [splice, hcs] using setRow_heap w g _ _ 9 _ hg, below_setRow hb hBg _⟩

set_option maxRecDepth 100000 in
set_option maxHeartbeats 2000000 in
theorem law_main (cap b v : Int) (a : Option Addr) (n c : Nat) (f : Nat → ByteArray) (w : World) (hn : n ≤ 4096) (hcap0 : 0 ≤ cap) (hcap : cap ≤ 4294967295) (hb0 : 0 ≤ b) (hb1 : b ≤ 4294967295)
    (h0 : a = none → n = 0 ∧ c = 0) (hs : ∀ j, j < n → (f j).size ≤ maxLen) (hl : Lies w a n f) :
    Calls Tryf.prog 3 #[.int .u32 cap, .slice a n c, .int .u32 b, .int .u64 v] w fun e w' => e = .returned (.bool true) ∧ Below w.heap.size w w' := by
  have HL : Hid (Lies w a n f) := hl
  have HS := (show Hid _ from hs)
  clear hl hs
  have hn4 : ¬ (4096 : Int) < (n : Int) := by omega
  have hmk := fun W => make9 W n hn
  go_enter Tryf.func3, Tryf.ntmps3
  go_wp2_with fail
  refine (zzBytes_any _ _ _ a n c f _ (by unfold maxLen; omega) HS.out HL.out).mono ?_
  rintro e w1 ⟨t, rfl, rfl, hsz⟩
  cases t with
  | false =>
    go_wp2
    go_ret
    exact ⟨rfl, Below.refl _ _⟩
  | true =>
    have HZ : Hid (∀ j, j < n → (f j).size ≤ 1048576) := hsz rfl
    clear hsz HS
    obtain ⟨nb, hnb⟩ : ∃ nb, (!a.isNone) = nb := ⟨_, rfl⟩
    have hnil : ∀ W, (binOp .neq 23 (.slice a n c) (.slice none 0 0)).run Tryf.prog W = .ok (.bool nb) W := fun W => by rw [← hnb]; exact run_neq_slice_nil_any W _ _ _ _ _ 0 0 Tryf.underlying23
    go_upto_if 26 with fail
    clear hnil
    go_cut [1] (fun s wc => ∃ a' c', s = .slice a' n c' ∧ Hid (Lies wc a' n f) ∧ Below w.heap.size w wc)
    case first =>
      cases a with
      | none =>
        obtain ⟨rfl, rfl⟩ := h0 rfl
        clear h0
        obtain rfl : nb = false := by simpa using hnb.symm
        go_wp2
        go_meet
        exact ⟨none, 0, rfl, HL, Below.refl _ _⟩
      | some ad =>
        clear h0
        obtain rfl : nb = true := by simpa using hnb.symm
        obtain ⟨cur, hcur⟩ : ∃ cur, cur = (madeCells #[.string ⟨#[]⟩] n).toList := ⟨_, rfl⟩
        obtain ⟨cs, hcs⟩ : ∃ cs, cs = (List.range n).map fun j => Value.string (f j) := ⟨_, rfl⟩
        have HCU : Hid (cur.length = n) := by rw [hcur]; show _ = _; simp [size_madeCells]
        have hmk2 : ∀ W, (Instr.makeSlice 23 (.int .i64 n) (.int .i64 n)).run Tryf.prog W = .ok (.slice (some ⟨W.heap.size, 0, none⟩) n n) (W.alloc (.cells cur.toArray 9)) := fun W => by
          rw [hmk, hcur]
        have HCS : Hid (cs = (List.range n).map fun j => Value.string (f j)) := hcs
        clear hmk hcur hcs
        have hlen : cs.length = n := by rw [HCS.out]; simp
        have HLEN : Hid (cs.length = n) := hlen
        clear hlen
        have hone : ∀ v ∈ cs, v.oneCell' = true := by rw [HCS.out]; intro v hv; simp at hv; obtain ⟨j, _, rfl⟩ := hv; rfl
        have hsrc : 0 < n → ∀ j v, cs[j]? = some v → (w.alloc (.cells cur.toArray 9)).cell? (ad.add j) = some v := by
          intro hpos
          obtain ⟨b', off, e, hlt, hcell⟩ := HL.out hpos
          simp only [Option.some.injEq] at e
          subst e
          intro j v hj
          rw [HCS.out] at hj
          have hjn : j < n := by
            rcases Nat.lt_or_ge j n with h | h
            · exact h
            · rw [List.getElem?_eq_none (by simpa using h)] at hj; simp at hj
          simp [hjn] at hj
          subst hj
          rw [WideShapes.add_plain, ((Below.refl w.heap.size w).alloc (Nat.le_refl _) _).cell hlt]
          exact hcell j hjn
        obtain ⟨w2, hrun, hg2, hB2⟩ := copy9 (w.alloc (.cells cur.toArray 9)) w w.heap.size ad n c cur cs w.heap.size (heap_alloc_new w _) HLEN.out HCU.out hsrc hone ((Below.refl _ w).alloc (Nat.le_refl _) _) (Nat.le_refl _)
        have HG2 := (show Hid _ from hg2)
        clear hsrc hone hg2
        go_wp2
        go_meet
        refine ⟨_, _, rfl, ?_, hB2⟩
        have := HG2.out
        rw [HCS.out] at this
        exact lies_copy HCU.out this
    case rest =>
      obtain ⟨a', c', rfl, HLC, hbc⟩ := hcut
      clear hmk h0 HL hnb
      rename_i wc
      go_wp2
      go_loopw [10, 11] (fun z c wr => ∃ (k t : Nat), z = .int .i64 t ∧ c = .int .i64 k ∧ k ≤ n ∧ t ≤ 1048576 ∧ wc = wr) (fun _ c _ => n - (intOf c).toNat)
      case atStart => exact ⟨0, 0, rfl, rfl, Nat.zero_le _, by omega, rfl⟩
      case round =>
        obtain ⟨k, t, rfl, rfl, hk, ht, rfl⟩ := hrel
        by_cases hlt : k < n
        · obtain ⟨bk, off, rfl, hbk, hcell⟩ := HLC.out (by omega)
          have hc := hcell k hlt
          have hsz := HZ.out k hlt
          clear hcell
          obtain ⟨s, hsk⟩ : ∃ s, f k = s := ⟨_, rfl⟩
          rw [hsk] at hc hsz
          clear hsk
          have hlt' : (k : Int) < (n : Int) := by omega
          have hsz' : (s.size : Int) ≤ 1048576 := by omega
          by_cases hz2 : t + (16 + s.size) ≤ 1048576
          · have hz2' : (t : Int) + (16 + (s.size : Int)) ≤ 1048576 := by omega
            go_wp2
            go_roundw
            case rel => exact ⟨k + 1, t + (16 + s.size), by simp, rfl, by omega, hz2, trivial⟩
            case measure => simp [intOf]; omega
          · have hz2' : 1048576 < (t : Int) + (16 + (s.size : Int)) := by omega
            go_wp2
            go_ret
            exact ⟨rfl, hbc⟩
        · obtain rfl : k = n := by omega
          clear hlt hk
          cases hc0 : (cap == 0) with
          | true =>
            go_wp2
            go_ret
            exact ⟨rfl, hbc⟩
          | false =>
            by_cases hnc : (k : Int) ≤ cap
            · go_wp2_with fail
              refine (distinct_any a' k c' f _ hn HLC.out).mono ?_
              rintro e w1 ⟨d, rfl, ⟨q, rfl⟩, hap⟩
              cases d with
              | false =>
                go_wp2
                go_ret
                exact ⟨rfl, below_drewN hbc _⟩
              | true =>
                have HAP : Hid (Apart f k) := hap rfl
                clear hap
                have hbq := below_drewN hbc q
                have HLQ : Hid (Lies (wc.drewN q) a' k f) := HLC.out
                clear hbc HLC
                generalize wc.drewN q = w1 at *
                go_wp2_with fail
                refine (zznew_ok cap a' k c' f _ hn hc0 hnc hcap HLQ.out HAP.out HZ.out).mono ?_
                rintro e w2 ⟨sb, tb, rb, cc, xs, rfl, hfr, hb2⟩
                have hbw := hbq.trans (hb2.mono hbq.size)
                have HL2 : Hid (Lies w2 a' k f) := HLQ.out.below (Nat.le_refl _) hb2
                clear HLQ hb2 hbq
                have HFR := (show Hid _ from hfr)
                clear hfr
                by_cases hbk : b < k
                · obtain ⟨bn, rfl⟩ := Int.eq_ofNat_of_zero_le hb0
                  have hbn : bn < k := by omega
                  obtain ⟨bk, off, rfl, hlt2, hcell⟩ := HL2.out (by omega)
                  have hc := hcell bn hbn
                  clear hcell
                  cases hv : (v == 0) with
                  | true =>
                    obtain rfl : v = 0 := by simpa using hv
                    go_wp2_with fail
                    refine (zznameAt _ _ _ (f bn) true _ (nameAt_in sb k f tb rb cc xs _ bn hn hbn HFR.out)).mono ?_
                    rintro e w3 ⟨rfl, rfl⟩
                    obtain ⟨s, hsk⟩ : ∃ s, f bn = s := ⟨_, rfl⟩
                    rw [hsk] at hc
                    rw [hsk]
                    clear hsk
                    go_wp2
                    go_ret
                    exact ⟨by simp, hbw⟩
                  | false =>
                    have hv0 : ¬ v = 0 := by simpa using hv
                    go_wp2_with fail
                    refine (zznameAt _ _ _ _ false _ (nameAt_stale sb k f tb rb cc xs _ bn v hn hbn (by simpa using fun e => hv0 e.symm) HFR.out)).mono ?_
                    rintro e w3 ⟨rfl, rfl⟩
                    go_wp2
                    go_ret
                    exact ⟨by simp, hbw⟩
                · have hbk' : (k : Int) ≤ b := by omega
                  go_wp2_with fail
                  refine (zznameAt _ _ _ _ false _ (nameAt_out sb k f tb rb cc xs _ b v hn hbk' HFR.out)).mono ?_
                  rintro e w3 ⟨rfl, rfl⟩
                  go_wp2
                  go_ret
                  exact ⟨by simp, hbw⟩
            · have hnc' : cap < (k : Int) := by omega
              go_wp2
              go_ret
              exact ⟨rfl, hbc⟩
end Go.Proofs.Qxb6616350aFmt
