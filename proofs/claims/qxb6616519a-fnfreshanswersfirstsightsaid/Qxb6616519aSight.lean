/-
  THE WALK of the law FnFreshAnswersFirstSight.
-/
import Derived.Test.Qxb6616519aSightA
import Derived.Deep.RegionWith
namespace Go.Proofs.Qxb6616519a
open Go.RowKit Go.Maps

/-- What is known of the script in a world: its cells, its names' bytes, the flags' array. -/
structure Known (w : World) (M ob : Nat) (a : Option Addr) (n : Nat) (A : Nat → Option Addr) (L C : Nat → Nat) (K : Nat → Int) (X : Nat → List Int) (oks : Array Value) : Prop where
  cells : 0 < n → ∃ b off, a = some ⟨b, off, none⟩ ∧ b < M ∧ ∀ j, j < n → w.cell? ⟨b, off + j * 2, none⟩ = some (.slice (A j) (L j) (C j)) ∧ w.cell? ⟨b, off + j * 2 + 1, none⟩ = some (.int .i64 (K j))
  bytes : ∀ j, j < n → BytesAt w M (A j) (L j) (X j)
  flags : w.heap[ob]? = some (.cells oks 37 (0, 0))
  low : ob < M

theorem Known.below {w w' : World} {M B ob n : Nat} {a : Option Addr} {A : Nat → Option Addr} {L C : Nat → Nat} {K : Nat → Int} {X : Nat → List Int} {oks : Array Value} (h : Known w M ob a n A L C K X oks) (hM : M ≤ B) (hb : Below B w w') : Known w' M ob a n A L C K X oks := by
  refine ⟨fun hn => ?_, fun j hj => (h.bytes j hj).below hM hb, ?_, h.low⟩
  · obtain ⟨b, off, e, hlt, hc⟩ := h.cells hn
    have hlt' : b < B := by omega
    exact ⟨b, off, e, hlt, fun j hj => ⟨(hb.cell (by exact hlt')).trans (hc j hj).1, (hb.cell (by exact hlt')).trans (hc j hj).2⟩⟩
  · rw [hb.block ob (Nat.lt_of_lt_of_le h.low hM)]; exact h.flags
theorem Known.mono {w : World} {M M' ob n : Nat} {a : Option Addr} {A : Nat → Option Addr} {L C : Nat → Nat} {K : Nat → Int} {X : Nat → List Int} {oks : Array Value} (h : Known w M ob a n A L C K X oks) (hM : M ≤ M') : Known w M' ob a n A L C K X oks := by
  refine ⟨fun hn => ?_, fun j hj => (h.bytes j hj).mono hM, h.flags, Nat.lt_of_lt_of_le h.low hM⟩
  obtain ⟨b, off, e, hlt, hc⟩ := h.cells hn
  exact ⟨b, off, e, by omega, hc⟩

/-- The names that the first p calls have given. -/
def Seen (K : Nat → Int) (X : Nat → List Int) (p : Nat) (seen : List (List Int)) : Prop := seen.length ≤ p ∧ ∀ s, s ∈ seen ↔ ∃ j, j < p ∧ K j < 0 ∧ X j = s
theorem seen_start (K : Nat → Int) (X : Nat → List Int) : Seen K X 0 [] := ⟨by simp, fun s => ⟨fun h => by simp at h, fun ⟨j, hj, _⟩ => by omega⟩⟩
theorem Seen.skip {K : Nat → Int} {X : Nat → List Int} {p : Nat} {seen : List (List Int)} (h : Seen K X p seen) (hk : 0 ≤ K p) : Seen K X (p + 1) seen := by
  refine ⟨by have := h.1; omega, fun s => (h.2 s).trans ⟨fun ⟨j, e1, e2, e3⟩ => ⟨j, by omega, e2, e3⟩, fun ⟨j, e1, e2, e3⟩ => ⟨j, ?_, e2, e3⟩⟩⟩
  rcases Nat.lt_or_ge j p with h | h
  · exact h
  · obtain rfl : j = p := by omega
    omega
theorem Seen.old {K : Nat → Int} {X : Nat → List Int} {p : Nat} {seen : List (List Int)} (h : Seen K X p seen) (hin : X p ∈ seen) : Seen K X (p + 1) seen := by
  refine ⟨by have := h.1; omega, fun s => ⟨fun hs => ?_, fun ⟨j, e1, e2, e3⟩ => ?_⟩⟩
  · obtain ⟨j, e1, e2, e3⟩ := (h.2 s).1 hs
    exact ⟨j, by omega, e2, e3⟩
  · rcases Nat.lt_or_ge j p with hj | hj
    · exact (h.2 s).2 ⟨j, hj, e2, e3⟩
    · obtain rfl : j = p := by omega
      rw [← e3]; exact hin
theorem Seen.new {K : Nat → Int} {X : Nat → List Int} {p : Nat} {seen : List (List Int)} (h : Seen K X p seen) (hk : K p < 0) : Seen K X (p + 1) (seen ++ [X p]) := by
  refine ⟨by have := h.1; simp; omega, fun s => ?_⟩
  rw [List.mem_append, List.mem_singleton]
  constructor
  · rintro (hs | rfl)
    · obtain ⟨j, e1, e2, e3⟩ := (h.2 s).1 hs
      exact ⟨j, by omega, e2, e3⟩
    · exact ⟨p, by omega, hk, rfl⟩
  · rintro ⟨j, e1, e2, e3⟩
    rcases Nat.lt_or_ge j p with hj | hj
    · exact .inl ((h.2 s).2 ⟨j, hj, e2, e3⟩)
    · obtain rfl : j = p := by omega
      exact .inr e3.symm

def okf (b0 b1 b2 b3 b4 b5 : Bool) : Nat → Bool
  | 0 => b0 | 1 => b1 | 2 => b2 | 3 => b3 | 4 => b4 | _ => b5

set_option maxRecDepth 100000 in
set_option maxHeartbeats 4000000 in
theorem law_main (b0 b1 b2 b3 b4 b5 : Bool) (a : Option Addr) (n c : Nat) (A : Nat → Option Addr) (L C : Nat → Nat) (K : Nat → Int) (X : Nat → List Int) (w : World) (hn : n ≤ 4096) (hs : ∀ j, j < n → L j ≤ maxLen)
    (h0 : ∀ j, j < n → A j = none → L j = 0 ∧ C j = 0) (hl : Script w a n A L C K) (hx : ∀ j, j < n → BytesAt w w.heap.size (A j) (L j) (X j)) :
    Calls Try.prog 5 #[.agg #[.bool b0, .bool b1, .bool b2, .bool b3, .bool b4, .bool b5], .slice a n c] w fun e w' => e = .returned (.bool true) ∧ Below w.heap.size w w' := by
  have hn4 : ¬ (4096 : Int) < (n : Int) := by omega
  have hk0 : Known (w.alloc (.cells #[.bool b0, .bool b1, .bool b2, .bool b3, .bool b4, .bool b5] 37)) (w.heap.size + 1) w.heap.size a n A L C K X #[.bool b0, .bool b1, .bool b2, .bool b3, .bool b4, .bool b5] := by
    have hbl := (Below.refl w.heap.size w).alloc (Nat.le_refl _) (.cells #[.bool b0, .bool b1, .bool b2, .bool b3, .bool b4, .bool b5] 37)
    refine ⟨fun hpos => ?_, fun j hj => ((hx j hj).below (Nat.le_refl _) hbl).mono (by omega), heap_alloc_new w _, by omega⟩
    obtain ⟨b, off, e, hlt, hc⟩ := (hl.below (Nat.le_refl _) hbl) hpos
    exact ⟨b, off, e, by simpa using hlt, hc⟩
  have hbel := (Below.refl w.heap.size w).alloc (Nat.le_refl _) (.cells #[.bool b0, .bool b1, .bool b2, .bool b3, .bool b4, .bool b5] 37)
  have hsc : Script (w.alloc (.cells #[.bool b0, .bool b1, .bool b2, .bool b3, .bool b4, .bool b5] 37)) a n A L C K := hl.below (Nat.le_refl _) hbel
  have hsz0 : (w.alloc (.cells #[.bool b0, .bool b1, .bool b2, .bool b3, .bool b4, .bool b5] 37)).heap.size = w.heap.size + 1 := by simp
  have HK0 := (show Hid _ from hk0)
  have HSC := (show Hid _ from hsc)
  have HS := (show Hid _ from hs)
  have H0 := (show Hid _ from h0)
  clear hl hx hk0 hs h0 hsc
  have hmk := fun W => make40 W n hn
  go_enter Try.func5, Try.ntmps5
  go_wp2_with fail
  generalize w.alloc (.cells #[.bool b0, .bool b1, .bool b2, .bool b3, .bool b4, .bool b5] 37) = w0 at *
  refine (zzBytes_any b0 b1 b2 b3 b4 b5 a n c A L C K _ (by unfold maxLen; omega) HS.out HSC.out).mono ?_
  rintro e w1 ⟨t, rfl, hb1, hsz⟩
  have hbw1 := hbel.trans (hb1.mono (by omega))
  have HK1 : Hid (Known w1 (w.heap.size + 1) w.heap.size a n A L C K X #[.bool b0, .bool b1, .bool b2, .bool b3, .bool b4, .bool b5]) := HK0.out.below (by omega) hb1
  have hsz1 : w.heap.size + 1 ≤ w1.heap.size := by have := hb1.size; omega
  clear HK0 HSC HS hbel hb1 hsz0
  cases t with
  | false =>
    go_wp2
    go_ret
    exact ⟨rfl, hbw1⟩
  | true =>
    have HZ : Hid (∀ j, j < n → L j ≤ 1048576) := hsz rfl
    clear hsz
    go_wp2
    go_loopw [5, 6] (fun z c wr => ∃ (k t : Nat), z = .int .i64 t ∧ c = .int .i64 k ∧ k ≤ n ∧ t ≤ 1048576 ∧ w1 = wr) (fun _ c _ => n - (intOf c).toNat)
    case atStart => exact ⟨0, 0, rfl, rfl, Nat.zero_le _, by omega, rfl⟩
    case round =>
      obtain ⟨k, t, rfl, rfl, hk, ht, rfl⟩ := hrel
      by_cases hlt : k < n
      · obtain ⟨bk, off, rfl, hbk, hcell⟩ := HK1.out.cells (by omega)
        have hc := (hcell k hlt).1
        have hsz := HZ.out k hlt
        clear hcell
        obtain ⟨x, hxk⟩ : ∃ x, A k = x := ⟨_, rfl⟩
        obtain ⟨y, hyk⟩ : ∃ y, C k = y := ⟨_, rfl⟩
        obtain ⟨s, hsk⟩ : ∃ s, L k = s := ⟨_, rfl⟩
        rw [hsk, hxk, hyk] at hc
        rw [hsk] at hsz
        clear hsk hxk hyk
        have hlt' : (k : Int) < (n : Int) := by omega
        have hsz' : (s : Int) ≤ 1048576 := by omega
        obtain ⟨N, hN⟩ : ∃ N : Nat, t + (s + 32) = N := ⟨_, rfl⟩
        have hN' : (t : Int) + ((s : Int) + 32) = (N : Int) := by omega
        have hNm : (N : Int) ≤ 3000000 := by omega
        clear hN
        by_cases hz2 : (N : Int) ≤ 1048576
        · go_wp2
          go_roundw
          case rel => exact ⟨k + 1, N, rfl, by simp, by omega, by omega, trivial⟩
          case measure => simp [intOf]; omega
        · have hz2' : 1048576 < (N : Int) := by omega
          clear hz2
          go_wp2
          go_ret
          exact ⟨rfl, hbw1⟩
      · obtain rfl : k = n := by omega
        clear hlt hk
        go_wp2
        go_loopw [7] (fun c wr => ∃ i : Nat, c = .int .i64 i ∧ i ≤ k ∧ w1 = wr ∧ Hid (∀ j, j < i → K j < 6)) (fun c _ => k - (intOf c).toNat)
        case atStart => exact ⟨0, rfl, Nat.zero_le _, rfl, fun j h => by omega⟩
        case round =>
          obtain ⟨i, rfl, hi, rfl, HM⟩ := hrel
          by_cases hlt : i < k
          · obtain ⟨bk, off, rfl, hbk, hcell⟩ := HK1.out.cells (by omega)
            have hc := (hcell i hlt).2
            clear hcell
            obtain ⟨s, hsk⟩ : ∃ s, K i = s := ⟨_, rfl⟩
            rw [hsk] at hc
            have HF : Hid (K i = s) := hsk
            clear hsk
            have hlt' : (i : Int) < (k : Int) := by omega
            by_cases h6 : s < 6
            · have h6' : ¬ (6 : Int) ≤ s := by omega
              go_wp2
              go_roundw
              case rel => exact ⟨i + 1, by simp, by omega, trivial, fun j hj => by
                rcases Nat.lt_or_ge j i with h | h
                · exact HM.out j h
                · obtain rfl : j = i := by omega
                  rw [HF.out]; exact h6⟩
              case measure => simp [intOf]; omega
            · have h6' : (6 : Int) ≤ s := by omega
              go_wp2
              go_ret
              exact ⟨rfl, hbw1⟩
          · obtain rfl : i = k := by omega
            clear hlt hi
            go_wp2
            obtain ⟨rb, hrb⟩ : ∃ rb, w1.heap.size = rb := ⟨_, rfl⟩
            have hcl := clones_start w1 i L X
            have hkn := HK1.out.below (B := w1.heap.size) hsz1 ((Below.refl _ w1).alloc (Nat.le_refl _) (.cells (madeCells #[.slice none 0 0] i) 40))
            have hbw2 := hbw1.alloc hbw1.size (.cells (madeCells #[.slice none 0 0] i) 40)
            rw [hrb] at hcl hsz1
            rw [hrb]
            clear hmk HK1 hbw1 hrb
            generalize w1.alloc (.cells (madeCells #[.slice none 0 0] i) 40) = w2 at *
            go_loopw [9] (fun c wr => ∃ q : Nat, c = .int .i64 q ∧ q ≤ i ∧ Hid (Clones wr rb i q L X) ∧ Hid (Known wr (w.heap.size + 1) w.heap.size a i A L C K X #[.bool b0, .bool b1, .bool b2, .bool b3, .bool b4, .bool b5]) ∧ Below w.heap.size w wr) (fun c _ => i - (intOf c).toNat)
            case atStart => exact ⟨0, rfl, Nat.zero_le _, hcl, hkn, hbw2⟩
            case round =>
              clear hcl hkn hbw2
              obtain ⟨q, rfl, hq, HC, HK, hbw⟩ := hrel
              by_cases hlt : q < i
              · obtain ⟨bk, off, rfl, hbk, hcell⟩ := HK.out.cells (by omega)
                have hc := (hcell q hlt).1
                clear hcell
                have hlt' : (q : Int) < (i : Int) := by omega
                have hM : w.heap.size + 1 ≤ wr.heap.size := by
                  obtain ⟨xs, h1, _⟩ := HC.out
                  have := lt_of_block h1
                  omega
                go_wp2_with fail
                refine (clone_any (A q) (L q) (C q) (w.heap.size + 1) (X q) _ (HZ.out q hlt) hM (H0.out q hlt) (HK.out.bytes q hlt)).mono ?_
                rintro e w3 ⟨a', c', rfl, hbt, hb3, hlow⟩
                have HC' := (show Hid _ from clones_add (c := c') HC.out hlt hb3 hbt hlow)
                obtain ⟨u, cu, fu⟩ : ∃ u, w3.cell? ⟨rb, q, none⟩ = some u ∧ w3.frozen? ⟨rb, q, none⟩ = false := by
                  obtain ⟨xs, h1, h2, _⟩ := HC.out
                  have h1' : w3.heap[rb]? = some (.cells xs 40 (0, 0)) := by rw [hb3.block rb (lt_of_block h1)]; exact h1
                  exact ⟨_, at_cell h1' (Array.getElem?_eq_getElem (by omega)), at_frozen h1'⟩
                have HK' := (show Hid _ from (HK.out.below hM hb3).below (Nat.le_refl _) ((Below.refl (w.heap.size + 1) w3).setCell (p := ⟨rb, q, none⟩) hsz1 (.slice a' (L q) c')))
                have hbw' := (hbw.trans (hb3.mono hbw.size)).setCell (p := ⟨rb, q, none⟩) (by simp; omega) (.slice a' (L q) c')
                clear HC HK hbt hlow hbw hc
                go_wp2
                go_roundw
                case rel => exact ⟨q + 1, by simp, by omega, HC', HK', hbw'⟩
                case measure => simp [intOf]; omega
              · obtain rfl : q = i := by omega
                clear hlt hq
                have o0 := at_cell (j := 0) HK.out.flags rfl
                have o1 := at_cell (j := 1) HK.out.flags rfl
                have o2 := at_cell (j := 2) HK.out.flags rfl
                have o3 := at_cell (j := 3) HK.out.flags rfl
                have o4 := at_cell (j := 4) HK.out.flags rfl
                have o5 := at_cell (j := 5) HK.out.flags rfl
                go_wp2_with fail
                refine (newMembers b0 b1 b2 b3 b4 b5 _).mono ?_
                rintro e w4 ⟨mb, rfl, hmb, hmlow, hb4⟩
                have hM : rb < wr.heap.size := by
                  obtain ⟨xs, h1, _⟩ := HC.out
                  exact lt_of_block h1
                have HK4 := (show Hid _ from HK.out.below (by omega) hb4)
                have HN4 : Hid (∀ j, j < q → ∃ a' c', w4.cell? ⟨rb, j, none⟩ = some (.slice a' (L j) c') ∧ BytesAt w4 mb a' (L j) (X j)) := by
                  obtain ⟨xs, h1, h2, h3⟩ := HC.out
                  have h1' : w4.heap[rb]? = some (.cells xs 40 (0, 0)) := by rw [hb4.block rb hM]; exact h1
                  intro j hj
                  obtain ⟨a', c', e1, e2, _⟩ := h3 j hj
                  exact ⟨a', c', at_cell h1' e1, (e2.below (Nat.le_refl _) hb4).mono hmlow⟩
                have HM4 : Hid (Mem w4 mb (okf b0 b1 b2 b3 b4 b5) []) := mem_new hmb _ rfl rfl rfl rfl rfl rfl
                have hbw4 := hbw.trans (hb4.mono hbw.size)
                have hrm : rb < mb := by omega
                clear o0 o1 o2 o3 o4 o5 hmb HC HK hbw hb4 H0 hM
                go_wp2
                go_loopw [11] (fun c wr => ∃ p : Nat, c = .int .i64 p ∧ p ≤ q ∧ Hid (∃ seen, Mem wr mb (okf b0 b1 b2 b3 b4 b5) seen ∧ Seen K X p seen) ∧ Below mb w4 wr) (fun c _ => q - (intOf c).toNat)
                case atStart => exact ⟨0, rfl, Nat.zero_le _, ⟨[], HM4.out, seen_start K X⟩, Below.refl _ _⟩
                case round =>
                  clear HM4
                  obtain ⟨p, rfl, hp, HS, hb5⟩ := hrel
                  by_cases hlt : p < q
                  · obtain ⟨seen, hmem, hseen⟩ := HS.out
                    have HME : Hid (Mem wr mb (okf b0 b1 b2 b3 b4 b5) seen) := hmem
                    have HSE : Hid (Seen K X p seen) := hseen
                    clear hmem hseen HS
                    have HKr := (show Hid _ from HK4.out.below (by omega) hb5)
                    obtain ⟨a', c', cn4, hbt4⟩ := HN4.out p hlt
                    have cn : wr.cell? ⟨rb, p, none⟩ = some (.slice a' (L p) c') := (hb5.cell hrm).trans cn4
                    have HBT : Hid (BytesAt wr mb a' (L p) (X p)) := hbt4.below (Nat.le_refl _) hb5
                    clear cn4 hbt4
                    obtain ⟨bk, off, rfl, hbk, hcell⟩ := HKr.out.cells (by omega)
                    have ck := (hcell p hlt).2
                    clear hcell
                    have hlt' : (p : Int) < (q : Int) := by omega
                    have hK6 := HM.out p hlt
                    obtain ⟨kp, hkp⟩ : ∃ kp, K p = kp := ⟨_, rfl⟩
                    rw [hkp] at ck hK6
                    have HKP : Hid (K p = kp) := hkp
                    clear hkp
                    by_cases hneg : kp < 0
                    · have hlen := HZ.out p hlt
                      have hsl : seen.length ≤ 8192 := by have := HSE.out.1; omega
                      have hKneg : K p < 0 := by rw [HKP.out]; exact hneg
                      have HCALL : Hid (Calls Try.prog 24 #[.pointer (some ⟨mb, 0, none⟩), .slice a' (L p) c', .int .i64 kp] wr.drew fun e w' => ∃ t seen', e = .returned (.bool t) ∧ ((t = false ∧ X p ∈ seen ∧ seen' = seen) ∨ (t = true ∧ ¬ X p ∈ seen ∧ seen' = seen ++ [X p])) ∧ Mem w' mb (okf b0 b1 b2 b3 b4 b5) seen' ∧ Below mb wr.drew w') :=
                        zzfresh_name mb (okf b0 b1 b2 b3 b4 b5) seen a' (L p) c' kp (X p) wr.drew hneg hlen hsl HME.out HBT.out
                      have HNEG : Hid (K p < 0) := hKneg
                      clear hsl hKneg hlen
                      go_upto_region 26 with fail
                      go_cut [12] (fun s wc => ∃ t seen', s = .bool t ∧ Hid ((t = false ∧ X p ∈ seen ∧ seen' = seen) ∨ (t = true ∧ ¬ X p ∈ seen ∧ seen' = seen ++ [X p])) ∧ Hid (Mem wc mb (okf b0 b1 b2 b3 b4 b5) seen') ∧ Below mb wr.drew wc)
                      case first =>
                        go_region_with (go_at_call 24; refine HCALL.out.mono ?_; rintro e w5 ⟨t, seen', rfl, hres, hmem5, hb6⟩)
                        all_goals
                          go_wp2
                          go_meet
                          exact ⟨t, seen', rfl, hres, hmem5, hb6⟩
                      case rest =>
                        obtain ⟨t, seen', rfl, HRES, HM5, hb6⟩ := hcut
                        have hbc := hb5.drew.trans hb6
                        have HKc := (show Hid _ from HK4.out.below (by omega) hbc)
                        have HCC : Hid (∀ j, j < q → wc.cell? ⟨bk, off + j * 2, none⟩ = some (.slice (A j) (L j) (C j)) ∧ wc.cell? ⟨bk, off + j * 2 + 1, none⟩ = some (.int .i64 (K j))) := by
                          obtain ⟨bk', off', e, _, hcell⟩ := HKc.out.cells (by omega)
                          cases e
                          exact hcell
                        have ckc := (HCC.out p hlt).2
                        rw [HKP.out] at ckc
                        clear hb6 hb5 ck cn HCALL HME HBT HKr
                        go_wp2
                        go_loopw [13, 14] (fun v c wr => ∃ j : Nat, v = .bool true ∧ c = .int .i64 j ∧ j ≤ p ∧ Hid (∃ r, wr = wc.drewN r) ∧ Hid (∀ i, i < j → ¬ (K i < 0 ∧ X i = X p))) (fun _ c _ => p - (intOf c).toNat)
                        case atStart => exact ⟨0, rfl, rfl, Nat.zero_le _, ⟨0, rfl⟩, fun j h => by omega⟩
                        case round =>
                          clear ckc
                          obtain ⟨j, rfl, rfl, hj, HW, HNO⟩ := hrel
                          by_cases hjp : j < p
                          · have hjp' : (j : Int) < (p : Int) := by omega
                            have hjq' : (j : Int) < (q : Int) := by omega
                            have g1 : wr.cell? ⟨bk, off + j * 2 + 1, none⟩ = some (.int .i64 (K j)) := by obtain ⟨r, rfl⟩ := HW.out; exact (HCC.out j (by omega)).2
                            have g2 : wr.cell? ⟨bk, off + j * 2, none⟩ = some (.slice (A j) (L j) (C j)) := by obtain ⟨r, rfl⟩ := HW.out; exact (HCC.out j (by omega)).1
                            have g3 : wr.cell? ⟨bk, off + p * 2, none⟩ = some (.slice (A p) (L p) (C p)) := by obtain ⟨r, rfl⟩ := HW.out; exact (HCC.out p hlt).1
                            obtain ⟨kj, hkj⟩ : ∃ kj, K j = kj := ⟨_, rfl⟩
                            rw [hkj] at g1
                            have HKJ : Hid (K j = kj) := hkj
                            clear hkj
                            by_cases hkn : kj < 0
                            · have HSAME : Hid (∀ r0, Calls Try.prog 25 #[.slice (A j) (L j) (C j), .slice (A p) (L p) (C p)] (wr.drewN r0) fun e w' => e = .returned (.bool (decide (X j = X p))) ∧ ∃ m, w' = (wr.drewN r0).drewN m) := fun r0 => by
                                obtain ⟨r, rfl⟩ := HW.out
                                exact same_any (A j) (A p) (L j) (L p) (C j) (C p) (w.heap.size + 1) (X j) (X p) _ (HZ.out j (by omega)) (HZ.out p hlt) (HKc.out.bytes j (by omega)) (HKc.out.bytes p hlt)
                              by_cases hxx : X j = X p
                              · rw [decide_eq_true hxx] at HSAME
                                go_wp2
                                go_quiet (first | (go_at_call 25; exact Calls.quiet_of (HSAME.out _)))
                                have hin : X p ∈ seen := (HSE.out.2 _).2 ⟨j, hjp, by rw [HKJ.out]; exact hkn, hxx⟩
                                rcases HRES.out with ⟨rfl, _, rfl⟩ | ⟨rfl, hno, _⟩
                                · have HSE' : Hid (Seen K X (p + 1) seen') := HSE.out.old hin
                                  clear hin
                                  go_wp2
                                  go_roundw
                                  case rel =>
                                    refine ⟨p + 1, by simp, by omega, ⟨seen', ?_, HSE'.out⟩, ?_⟩
                                    · obtain ⟨r, rfl⟩ := HW.out
                                      exact HM5.out
                                    · obtain ⟨r, rfl⟩ := HW.out
                                      exact below_drewN (below_drewN hbc _) _
                                  case measure => simp [intOf]; omega
                                · exact absurd hin hno
                              · rw [decide_eq_false hxx] at HSAME
                                go_wp2
                                go_quiet (first | (go_at_call 25; exact Calls.quiet_of (HSAME.out _)))
                                go_wp2
                                go_roundw
                                case rel =>
                                  refine ⟨j + 1, rfl, by simp, by omega, ?_, fun i hi => ?_⟩
                                  · obtain ⟨r, rfl⟩ := HW.out
                                    exact ⟨_, World.drewN_drewN _ _ _⟩
                                  · rcases Nat.lt_or_ge i j with h | h
                                    · exact HNO.out i h
                                    · obtain rfl : i = j := by omega
                                      exact fun e => hxx e.2
                                case measure => simp [intOf]; omega
                            · have hdec : decide (kj < 0) = false := decide_eq_false hkn
                              go_wp2
                              go_quiet (fail)
                              go_wp2
                              go_roundw
                              case rel =>
                                refine ⟨j + 1, rfl, by simp, by omega, ?_, fun i hi => ?_⟩
                                · obtain ⟨r, rfl⟩ := HW.out
                                  exact ⟨_, World.drewN_drewN _ _ _⟩
                                · rcases Nat.lt_or_ge i j with h | h
                                  · exact HNO.out i h
                                  · obtain rfl : i = j := by omega
                                    exact fun e => by have h1 := e.1; rw [HKJ.out] at h1; omega
                              case measure => simp [intOf]; omega
                          · obtain rfl : j = p := by omega
                            have hnin : ¬ X j ∈ seen := fun h => by
                              obtain ⟨i, e1, e2, e3⟩ := (HSE.out.2 _).1 h
                              exact HNO.out i e1 ⟨e2, e3⟩
                            rcases HRES.out with ⟨rfl, hin, _⟩ | ⟨rfl, _, rfl⟩
                            · exact absurd hin hnin
                            · have HSE' : Hid (Seen K X (j + 1) (seen ++ [X j])) := HSE.out.new HNEG.out
                              clear hnin
                              go_wp2
                              go_roundw
                              case rel =>
                                refine ⟨j + 1, by simp, by omega, ⟨_, ?_, HSE'.out⟩, ?_⟩
                                · obtain ⟨r, rfl⟩ := HW.out
                                  exact HM5.out
                                · obtain ⟨r, rfl⟩ := HW.out
                                  exact below_drewN hbc _
                              case measure => simp [intOf]; omega
                    · obtain ⟨kk, rfl⟩ := Int.eq_ofNat_of_zero_le (show 0 ≤ kp by omega)
                      obtain ⟨g, hg⟩ : ∃ g, okf b0 b1 b2 b3 b4 b5 kk = g := ⟨_, rfl⟩
                      have HG : Hid (okf b0 b1 b2 b3 b4 b5 kk = g) := hg
                      have hcall : ∀ q0, Calls Try.prog 24 #[.pointer (some ⟨mb, 0, none⟩), .slice a' (L p) c', .int .i64 kk] (wr.drewN q0) fun e w' => e = .returned (.bool (!g)) ∧ w' = wr.drewN q0 := fun q0 => by
                        rw [← hg]
                        exact (zzfresh_k mb kk (okf b0 b1 b2 b3 b4 b5) seen a' (L p) c' (wr.drewN q0) (by omega) HME.out).mono fun _ _ h => ⟨h.1, h.2.symm⟩
                      have HCALL := (show Hid _ from hcall)
                      clear hg hcall
                      go_wp2
                      go_quiet (first | (go_at_call 24; exact Calls.quiet_of_same (HCALL.out _)))
                      clear HCALL
                      have h6 : kk = 0 ∨ kk = 1 ∨ kk = 2 ∨ kk = 3 ∨ kk = 4 ∨ kk = 5 := by omega
                      rcases h6 with rfl | rfl | rfl | rfl | rfl | rfl
                      · obtain rfl : b0 = g := HG.out
                        have of : (wr.drewN nq).cell? ⟨w.heap.size, 0, none⟩ = some (.bool b0) := at_cell (j := 0) HKr.out.flags rfl
                        have hgg : ((!b0) != (!b0)) = false := by simp
                        go_wp2
                        go_roundw
                        case rel => exact ⟨p + 1, by simp, by omega, ⟨seen, HME.out, HSE.out.skip (by rw [HKP.out]; decide)⟩, below_drewN hb5 _⟩
                        case measure => simp [intOf]; omega
                      · obtain rfl : b1 = g := HG.out
                        have of : (wr.drewN nq).cell? ⟨w.heap.size, 1, none⟩ = some (.bool b1) := at_cell (j := 1) HKr.out.flags rfl
                        have hgg : ((!b1) != (!b1)) = false := by simp
                        go_wp2
                        go_roundw
                        case rel => exact ⟨p + 1, by simp, by omega, ⟨seen, HME.out, HSE.out.skip (by rw [HKP.out]; decide)⟩, below_drewN hb5 _⟩
                        case measure => simp [intOf]; omega
                      · obtain rfl : b2 = g := HG.out
                        have of : (wr.drewN nq).cell? ⟨w.heap.size, 2, none⟩ = some (.bool b2) := at_cell (j := 2) HKr.out.flags rfl
                        have hgg : ((!b2) != (!b2)) = false := by simp
                        go_wp2
                        go_roundw
                        case rel => exact ⟨p + 1, by simp, by omega, ⟨seen, HME.out, HSE.out.skip (by rw [HKP.out]; decide)⟩, below_drewN hb5 _⟩
                        case measure => simp [intOf]; omega
                      · obtain rfl : b3 = g := HG.out
                        have of : (wr.drewN nq).cell? ⟨w.heap.size, 3, none⟩ = some (.bool b3) := at_cell (j := 3) HKr.out.flags rfl
                        have hgg : ((!b3) != (!b3)) = false := by simp
                        go_wp2
                        go_roundw
                        case rel => exact ⟨p + 1, by simp, by omega, ⟨seen, HME.out, HSE.out.skip (by rw [HKP.out]; decide)⟩, below_drewN hb5 _⟩
                        case measure => simp [intOf]; omega
                      · obtain rfl : b4 = g := HG.out
                        have of : (wr.drewN nq).cell? ⟨w.heap.size, 4, none⟩ = some (.bool b4) := at_cell (j := 4) HKr.out.flags rfl
                        have hgg : ((!b4) != (!b4)) = false := by simp
                        go_wp2
                        go_roundw
                        case rel => exact ⟨p + 1, by simp, by omega, ⟨seen, HME.out, HSE.out.skip (by rw [HKP.out]; decide)⟩, below_drewN hb5 _⟩
                        case measure => simp [intOf]; omega
                      · obtain rfl : b5 = g := HG.out
                        have of : (wr.drewN nq).cell? ⟨w.heap.size, 5, none⟩ = some (.bool b5) := at_cell (j := 5) HKr.out.flags rfl
                        have hgg : ((!b5) != (!b5)) = false := by simp
                        go_wp2
                        go_roundw
                        case rel => exact ⟨p + 1, by simp, by omega, ⟨seen, HME.out, HSE.out.skip (by rw [HKP.out]; decide)⟩, below_drewN hb5 _⟩
                        case measure => simp [intOf]; omega
                  · obtain rfl : p = q := by omega
                    go_wp2
                    go_ret
                    exact ⟨rfl, hbw4.trans (hb5.mono (by omega))⟩
end Go.Proofs.Qxb6616519a
