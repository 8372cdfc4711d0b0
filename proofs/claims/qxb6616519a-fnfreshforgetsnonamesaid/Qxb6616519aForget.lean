/-
  THE WALK of the law FnFreshForgetsNoName.
-/
import Derived.Test.Qxb6616519aForgetA
import Derived.Deep.RegionWith
namespace Go.Proofs.Qxb6616519a
open Go.RowKit Go.Maps

/-- No flag is set. -/
def nof : Nat → Bool := fun _ => false

/-- The row while element i is carried down to place j. -/
def mid (P : Nat → Nat) (i j : Nat) : Nat → Nat := fun k => if k ≤ j then P k else if k ≤ i then P (k - 1) else P k
theorem Ord.congr {w : World} {rb n : Nat} {A : Nat → Option Addr} {L C : Nat → Nat} {P Q : Nat → Nat} (h : Ord w rb n A L C P) (e : ∀ k, k < n → Q k = P k) : Ord w rb n A L C Q := by
  obtain ⟨xs, h1, h2, h3⟩ := h
  exact ⟨xs, h1, h2, fun k hk => by rw [e k hk]; exact h3 k hk⟩
theorem mid_start (P : Nat → Nat) (i k : Nat) : mid P i i k = P k := by
  unfold mid
  split
  · rfl
  · first | rfl | (rw [if_neg (by omega)])
theorem mid_low (P : Nat → Nat) {i j k : Nat} (h : k ≤ j) : mid P i j k = P k := by unfold mid; rw [if_pos h]
theorem Ord.down {w : World} {rb n : Nat} {A : Nat → Option Addr} {L C : Nat → Nat} {P : Nat → Nat} {i j : Nat} (h : Ord w rb n A L C (mid P i (j + 1))) (hj : j + 1 ≤ i) (hi : i < n) : Ord (w.setCell ⟨rb, j + 1, none⟩ (.slice (A (P j)) (L (P j)) (C (P j)))) rb n A L C (mid P i j) := by
  refine h.set (by omega) ?_ fun k hk hne => ?_
  · unfold mid
    rw [if_neg (by omega), if_pos hj]
    rfl
  · unfold mid
    by_cases h1 : k ≤ j
    · rw [if_pos h1, if_pos (by omega)]
    · rw [if_neg h1, if_neg (show ¬ k ≤ j + 1 by omega)]
theorem Ord.laid {w : World} {rb n : Nat} {A : Nat → Option Addr} {L C : Nat → Nat} {P : Nat → Nat} {i j : Nat} (h : Ord w rb n A L C (mid P i j)) (hj : j ≤ i) (hi : i < n) : Ord (w.setCell ⟨rb, j, none⟩ (.slice (A (P i)) (L (P i)) (C (P i)))) rb n A L C (ins P i j) := by
  refine h.set (by omega) ?_ fun k hk hne => ?_
  · unfold ins
    rw [if_neg (by omega), if_pos rfl]
  · unfold ins mid
    by_cases h1 : k < j
    · rw [if_pos h1, if_pos (by omega)]
    · rw [if_neg h1, if_neg hne, if_neg (show ¬ k ≤ j by omega)]

set_option maxRecDepth 100000 in
set_option maxHeartbeats 8000000 in
theorem forget_main (a : Option Addr) (n c : Nat) (A : Nat → Option Addr) (L C : Nat → Nat) (X : Nat → List Int) (w : World) (hn : n ≤ 4096) (hs : ∀ j, j < n → L j ≤ maxLen)
    (h0 : ∀ j, j < n → A j = none → L j = 0 ∧ C j = 0) (hl : Names w w.heap.size a n A L C) (hx : ∀ j, j < n → BytesAt w w.heap.size (A j) (L j) (X j)) :
    Calls Try.prog 6 #[.slice a n c] w fun e w' => e = .returned (.bool true) ∧ Below w.heap.size w w' := by
  have hn4 : ¬ (4096 : Int) < (n : Int) := by omega
  have HL : Hid (Names w w.heap.size a n A L C) := hl
  have HX := (show Hid _ from hx)
  have HS := (show Hid _ from hs)
  have H0 := (show Hid _ from h0)
  clear hl hx hs h0
  have hmk := fun W => make40 W n hn
  go_enter Try.func6, Try.ntmps6
  go_wp2_with fail
  refine (zzNames_any a n c A L C _ (by unfold maxLen; omega) HS.out HL.out).mono ?_
  rintro e w1 ⟨t, rfl, rfl, hsz⟩
  clear HS
  cases t with
  | false =>
    go_wp2
    go_ret
    exact ⟨rfl, Below.refl _ _⟩
  | true =>
    have HZ : Hid (∀ j, j < n → L j ≤ 1048576) := hsz rfl
    clear hsz
    go_wp2
    go_loopw [3, 4] (fun z c wr => ∃ (k t : Nat), z = .int .i64 t ∧ c = .int .i64 k ∧ k ≤ n ∧ t ≤ 1048576 ∧ w = wr) (fun _ c _ => n - (intOf c).toNat)
    case atStart => exact ⟨0, 0, rfl, rfl, Nat.zero_le _, by omega, rfl⟩
    case round =>
      obtain ⟨k, t, rfl, rfl, hk, ht, rfl⟩ := hrel
      by_cases hlt : k < n
      · obtain ⟨bk, off, rfl, hbk, hcell⟩ := HL.out (by omega)
        have hc := hcell k hlt
        have hsz := HZ.out k hlt
        clear hcell
        obtain ⟨x, hxk⟩ : ∃ x, A k = x := ⟨_, rfl⟩
        obtain ⟨y, hyk⟩ : ∃ y, C k = y := ⟨_, rfl⟩
        obtain ⟨s, hsk⟩ : ∃ s, L k = s := ⟨_, rfl⟩
        rw [hsk, hxk, hyk] at hc
        rw [hsk] at hsz
        clear hsk hxk hyk
        have hlt' : (k : Int) < (n : Int) := by omega
        have hsz' : (s : Int) ≤ 1048576 := by omega
        obtain ⟨N, hN⟩ : ∃ N : Nat, t + (s + 24) = N := ⟨_, rfl⟩
        have hN' : (t : Int) + ((s : Int) + 24) = (N : Int) := by omega
        have hNm : (N : Int) ≤ 3000000 := by omega
        clear hN
        by_cases hz2 : (N : Int) ≤ 1048576
        · go_wp2
          go_roundw
          case rel => exact ⟨k + 1, N, rfl, by simp, by omega, by omega, trivial⟩
          case measure => simp [intOf]; omega
        · have hz2' : 1048576 < (N : Int) := by omega
          clear hz2
          go_wp2
          go_ret
          exact ⟨rfl, Below.refl _ _⟩
      · obtain rfl : k = n := by omega
        clear hlt hk
        go_wp2
        have hcl := clones_start w k L X
        have hbw2 := (Below.refl w.heap.size w).alloc (Nat.le_refl _) (.cells (madeCells #[.slice none 0 0] k) 40)
        generalize w.alloc (.cells (madeCells #[.slice none 0 0] k) 40) = w2 at *
        go_loopw [6] (fun c wr => ∃ q : Nat, c = .int .i64 q ∧ q ≤ k ∧ Hid (Clones wr w.heap.size k q L X) ∧ Below w.heap.size w wr) (fun c _ => k - (intOf c).toNat)
        case atStart => exact ⟨0, rfl, Nat.zero_le _, hcl, hbw2⟩
        case round =>
          clear hcl hbw2
          obtain ⟨q, rfl, hq, HC, hbw⟩ := hrel
          by_cases hlt : q < k
          · obtain ⟨bk, off, rfl, hbk, hcell⟩ := (HL.out.below (Nat.le_refl _) hbw) (by omega)
            have hc := hcell q hlt
            clear hcell
            have hlt' : (q : Int) < (k : Int) := by omega
            go_wp2_with fail
            refine (clone_any (A q) (L q) (C q) w.heap.size (X q) _ (HZ.out q hlt) hbw.size (H0.out q hlt) ((HX.out q hlt).below (Nat.le_refl _) hbw)).mono ?_
            rintro e w3 ⟨a', c', rfl, hbt, hb3, hlow⟩
            have HC' := (show Hid _ from clones_add (c := c') HC.out hlt hb3 hbt hlow)
            obtain ⟨u, cu, fu⟩ : ∃ u, w3.cell? ⟨w.heap.size, q, none⟩ = some u ∧ w3.frozen? ⟨w.heap.size, q, none⟩ = false := by
              obtain ⟨xs, h1, h2, _⟩ := HC.out
              have h1' : w3.heap[w.heap.size]? = some (.cells xs 40 (0, 0)) := by rw [hb3.block w.heap.size (lt_of_block h1)]; exact h1
              exact ⟨_, at_cell h1' (Array.getElem?_eq_getElem (by omega)), at_frozen h1'⟩
            have hbw' := (hbw.trans (hb3.mono hbw.size)).setCell (p := ⟨w.heap.size, q, none⟩) (Nat.le_refl _) (.slice a' (L q) c')
            clear HC hbt hlow hbw hc
            go_wp2
            go_roundw
            case rel => exact ⟨q + 1, by simp, by omega, HC', hbw'⟩
            case measure => simp [intOf]; omega
          · obtain rfl : q = k := by omega
            clear hlt hq
            go_wp2_with fail
            refine (newMembers false false false false false false _).mono ?_
            rintro e w4 ⟨mb, rfl, hmb, hmlow, hb4⟩
            have hM : w.heap.size < wr.heap.size := by
              obtain ⟨xs, h1, _⟩ := HC.out
              exact lt_of_block h1
            have HN4 : Hid (∀ j, j < q → ∃ a' c', w4.cell? ⟨w.heap.size, j, none⟩ = some (.slice a' (L j) c') ∧ BytesAt w4 mb a' (L j) (X j)) := by
              obtain ⟨xs, h1, h2, h3⟩ := HC.out
              have h1' : w4.heap[w.heap.size]? = some (.cells xs 40 (0, 0)) := by rw [hb4.block w.heap.size hM]; exact h1
              intro j hj
              obtain ⟨a', c', e1, e2, _⟩ := h3 j hj
              exact ⟨a', c', at_cell h1' e1, (e2.below (Nat.le_refl _) hb4).mono hmlow⟩
            have HM4 : Hid (Mem w4 mb nof []) := mem_new hmb _ rfl rfl rfl rfl rfl rfl
            have hbw4 := hbw.trans (hb4.mono hbw.size)
            have hrm : w.heap.size < mb := by omega
            clear hmb HC hbw hb4 H0 hM
            go_wp2
            go_loopw [8, 9] (fun v c wr => ∃ p s : Nat, v = .int .i64 s ∧ c = .int .i64 p ∧ p ≤ q ∧ s ≤ p ∧ Hid (∃ seen, Mem wr mb nof seen ∧ Dist X p seen ∧ seen.length = s) ∧ Below mb w4 wr) (fun _ c _ => q - (intOf c).toNat)
            case atStart => exact ⟨0, 0, rfl, rfl, Nat.zero_le _, Nat.le_refl _, ⟨[], HM4.out, dist_start X, rfl⟩, Below.refl _ _⟩
            case round =>
              clear HM4
              obtain ⟨p, s, rfl, rfl, hp, hsp, HSE, hb5⟩ := hrel
              by_cases hlt : p < q
              · obtain ⟨a', c', cn4, hbt4⟩ := HN4.out p hlt
                have cn : wr.cell? ⟨w.heap.size, p, none⟩ = some (.slice a' (L p) c') := (hb5.cell hrm).trans cn4
                have HBT : Hid (BytesAt wr mb a' (L p) (X p)) := hbt4.below (Nat.le_refl _) hb5
                clear cn4 hbt4
                have hlt' : (p : Int) < (q : Int) := by omega
                obtain ⟨seen, hmem, hdist, hlen⟩ := HSE.out
                have HD : Hid (Dist X p seen) := hdist
                have HLN : Hid (seen.length = s) := hlen
                have HME : Hid (Mem wr mb nof seen) := hmem
                have hsl : seen.length ≤ 8192 := by omega
                have HSL : Hid (seen.length ≤ 8192) := hsl
                clear hmem hdist hlen HSE hsl
                go_wp2_with fail
                refine (zzfresh_name mb nof seen a' (L p) c' (-1) (X p) _ (by decide) (HZ.out p hlt) HSL.out HME.out HBT.out).mono ?_
                rintro e w5 ⟨t', seen', rfl, hres, hmem5, hb6⟩
                have hb56 := hb5.trans hb6
                have HM5 := (show Hid _ from hmem5)
                clear hmem5 hb6 cn HME hb5
                rcases hres with ⟨rfl, hin, rfl⟩ | ⟨rfl, hnin, rfl⟩
                · have HD' := (show Hid _ from HD.out.old hin)
                  clear hin
                  go_wp2
                  go_roundw
                  case rel => exact ⟨p + 1, s, rfl, by simp, by omega, by omega, ⟨_, HM5.out, HD'.out, HLN.out⟩, hb56⟩
                  case measure => simp [intOf]; omega
                · have HD' := (show Hid _ from HD.out.new hnin)
                  clear hnin
                  go_wp2
                  go_roundw
                  case rel => exact ⟨p + 1, s + 1, by simp, by simp, by omega, by omega, ⟨_, HM5.out, HD'.out, by simp [HLN.out]⟩, hb56⟩
                  case measure => simp [intOf]; omega
              · obtain rfl : p = q := by omega
                clear hlt hp
                obtain ⟨seen, hmem, hdist, hlen⟩ := HSE.out
                have HME : Hid (Mem wr mb nof seen) := hmem
                have HD : Hid (Dist X p seen) := hdist
                have HLN : Hid (seen.length = s) := hlen
                have HSL : Hid (seen.length ≤ 8192) := (show seen.length ≤ 8192 by omega)
                clear hmem hdist hlen HSE
                go_wp2
                go_loopw [10] (fun c wr => ∃ j : Nat, c = .int .i64 j ∧ j ≤ p ∧ Hid (Mem wr mb nof seen) ∧ Below mb w4 wr) (fun c _ => p - (intOf c).toNat)
                case atStart => exact ⟨0, rfl, Nat.zero_le _, HME, hb5⟩
                case round =>
                  clear HME hb5
                  obtain ⟨j, rfl, hj, HME, hb5⟩ := hrel
                  by_cases hlt : j < p
                  · obtain ⟨a', c', cn4, hbt4⟩ := HN4.out j hlt
                    have cn : wr.cell? ⟨w.heap.size, j, none⟩ = some (.slice a' (L j) c') := (hb5.cell hrm).trans cn4
                    have HBT : Hid (BytesAt wr mb a' (L j) (X j)) := hbt4.below (Nat.le_refl _) hb5
                    clear cn4 hbt4
                    have hlt' : (j : Int) < (p : Int) := by omega
                    have hin : X j ∈ seen := (HD.out.2.2 _).2 ⟨j, hlt, rfl⟩
                    have HIN : Hid (X j ∈ seen) := hin
                    clear hin
                    go_wp2_with fail
                    refine (zzfresh_name mb nof seen a' (L j) c' (-1) (X j) _ (by decide) (HZ.out j hlt) HSL.out HME.out HBT.out).mono ?_
                    rintro e w5 ⟨t', seen', rfl, hres, hmem5, hb6⟩
                    have hb56 := hb5.trans hb6
                    have HM5 := (show Hid _ from hmem5)
                    clear hmem5 hb6 cn HME hb5
                    rcases hres with ⟨rfl, _, rfl⟩ | ⟨_, hnin, _⟩
                    · go_wp2
                      go_roundw
                      case rel => exact ⟨j + 1, by simp, by omega, HM5, hb56⟩
                      case measure => simp [intOf]; omega
                    · exact absurd HIN.out hnin
                  · obtain rfl : j = p := by omega
                    clear hlt hj
                    go_wp2
                    go_loopw [11] (fun c wr => ∃ i : Nat, c = .int .i64 i ∧ i ≤ 6 ∧ Hid (Mem wr mb nof seen) ∧ Below mb w4 wr) (fun c _ => 6 - (intOf c).toNat)
                    case atStart => exact ⟨0, rfl, Nat.zero_le _, HME, hb5⟩
                    case round =>
                      clear HME hb5
                      obtain ⟨i, rfl, hi, HME, hb5⟩ := hrel
                      by_cases hlt : i < 6
                      · have hlt' : (i : Int) < 6 := by omega
                        go_wp2_with fail
                        refine (zzfresh_k mb i nof seen none 0 0 _ hlt HME.out).mono ?_
                        rintro e w5 ⟨rfl, rfl⟩
                        rw [show (!nof i) = true from rfl]
                        go_wp2
                        go_roundw
                        case rel => exact ⟨i + 1, by simp, by omega, HME, hb5⟩
                        case measure => simp [intOf]; omega
                      · have hlt' : ¬ (i : Int) < 6 := by omega
                        clear hlt hi
                        go_wp2
                        have hbw6 := hbw4.trans (hb5.mono (Nat.le_of_lt hrm))
                        have hfl := fill_start wr j A L C
                        have hbw7 := hbw6.alloc hbw6.size (.cells (madeCells #[.slice none 0 0] j) 40)
                        obtain ⟨rb, hrb⟩ : ∃ rb, wr.heap.size = rb := ⟨_, rfl⟩
                        have hrl : w.heap.size ≤ rb := by have := hbw6.size; omega
                        rw [hrb] at hfl
                        rw [hrb]
                        clear hmk hbw6 hb5 HME HN4 hbw4 hrm hmlow hrb HSL
                        generalize wr.alloc (.cells (madeCells #[.slice none 0 0] j) 40) = w7 at *
                        go_loopw [13] (fun c wr => ∃ q : Nat, c = .int .i64 q ∧ q ≤ j ∧ Hid (Fill wr rb j q A L C) ∧ Below w.heap.size w wr) (fun c _ => j - (intOf c).toNat)
                        case atStart => exact ⟨0, rfl, Nat.zero_le _, hfl, hbw7⟩
                        case round =>
                          clear hfl hbw7
                          obtain ⟨q, rfl, hq, HF, hbw⟩ := hrel
                          by_cases hlt : q < j
                          · obtain ⟨bk, off, rfl, hbk, hcell⟩ := (HL.out.below (Nat.le_refl _) hbw) (by omega)
                            have hc := hcell q hlt
                            clear hcell
                            have hlt' : (q : Int) < (j : Int) := by omega
                            obtain ⟨u, cu, fu⟩ : ∃ u, wr.cell? ⟨rb, q, none⟩ = some u ∧ wr.frozen? ⟨rb, q, none⟩ = false := by
                              obtain ⟨xs, h1, h2, _⟩ := HF.out
                              exact ⟨_, at_cell h1 (Array.getElem?_eq_getElem (by omega)), at_frozen h1⟩
                            have HF' := (show Hid _ from HF.out.add hlt)
                            have hbw' := hbw.setCell (p := ⟨rb, q, none⟩) hrl (.slice (A q) (L q) (C q))
                            clear HF hbw
                            go_wp2
                            go_roundw
                            case rel => exact ⟨q + 1, by simp, by omega, HF', hbw'⟩
                            case measure => simp [intOf]; omega
                          · obtain rfl : q = j := by omega
                            clear hlt hq
                            have HO : Hid (Ord wr rb q A L C (fun k => k)) := HF.out
                            clear HF
                            go_wp2
                            go_loopw [14] (fun c wr => ∃ (i : Nat) (P : Nat → Nat), c = .int .i64 i ∧ 1 ≤ i ∧ i ≤ 4097 ∧ Hid (Onto P q) ∧ Hid (Sorted (fun k => X (P k)) i) ∧ Hid (Ord wr rb q A L C P) ∧ Below w.heap.size w wr) (fun c _ => 4097 - (intOf c).toNat)
                            case atStart => exact ⟨1, fun k => k, rfl, Nat.le_refl _, by omega, ⟨fun k hk => hk, fun m hm => ⟨m, hm, rfl⟩⟩, (fun k l h1 h2 => by omega), HO, hbw⟩
                            case round =>
                              clear HO hbw
                              obtain ⟨i, P, rfl, hi1, hi2, HP, HSO, HO, hbw⟩ := hrel
                              by_cases hlt : i < q
                              · have hlt' : (i : Int) < (q : Int) := by omega
                                have ci := (HO.out.cell hlt).1
                                have HPI := HP.out.1 i hlt
                                go_wp2
                                go_loopw [16] (fun c wr => ∃ j : Nat, c = .int .i64 j ∧ j ≤ i ∧ Hid (Ord wr rb q A L C (mid P i j)) ∧ Hid (∀ k, j ≤ k → k < i → lt (X (P i)) (X (P k)) = true) ∧ Below w.heap.size w wr) (fun c _ => (intOf c).toNat)
                                case atStart => exact ⟨i, rfl, Nat.le_refl _, HO.out.congr fun k _ => mid_start P i k, (fun k h1 h2 => by omega), hbw⟩
                                case round =>
                                  clear ci HO hbw
                                  obtain ⟨j, rfl, hj, HO, HUP, hbw⟩ := hrel
                                  cases j with
                                  | zero =>
                                    obtain ⟨cu, fu⟩ := HO.out.cell (k := 0) (by omega)
                                    have HO' := (show Hid _ from HO.out.laid (Nat.zero_le _) hlt)
                                    have hbw' := hbw.setCell (p := ⟨rb, 0, none⟩) hrl (.slice (A (P i)) (L (P i)) (C (P i)))
                                    have HSO' := (show Hid _ from ins_sorted (Nat.zero_le _) HSO.out HUP.out (fun h => by omega))
                                    have HP' := (show Hid _ from ins_onto HP.out hlt (Nat.zero_le i))
                                    clear HO hbw HSO HP HUP
                                    go_wp2
                                    go_roundw
                                    case rel => exact ⟨i + 1, ins P i 0, by simp, by omega, by omega, HP', HSO', HO', hbw'⟩
                                    case measure => simp [intOf]; omega
                                  | succ j =>
                                    have cj : wr.cell? ⟨rb, j, none⟩ = some (.slice (A (P j)) (L (P j)) (C (P j))) := by
                                      have := (HO.out.cell (k := j) (by omega)).1
                                      rwa [mid_low P (show j ≤ j + 1 by omega)] at this
                                    have HPJ := HP.out.1 j (by omega)
                                    have HBI : Hid (BytesAt wr w.heap.size (A (P i)) (L (P i)) (X (P i))) := (HX.out _ HPI).below (Nat.le_refl _) hbw
                                    have HBJ : Hid (BytesAt wr w.heap.size (A (P j)) (L (P j)) (X (P j))) := (HX.out _ HPJ).below (Nat.le_refl _) hbw
                                    have hjq : (j : Int) < (q : Int) := by omega
                                    go_wp2_with fail
                                    refine (less_any (A (P i)) (A (P j)) (L (P i)) (L (P j)) (C (P i)) (C (P j)) w.heap.size (X (P i)) (X (P j)) _ (HZ.out _ HPI) (HZ.out _ HPJ) HBI.out HBJ.out).mono ?_
                                    rintro e w5 ⟨rfl, r, rfl⟩
                                    have HO5 : Hid (Ord (wr.drewN r) rb q A L C (mid P i (j + 1))) := HO.out
                                    have hbw5 := below_drewN hbw r
                                    replace cj : (wr.drewN r).cell? ⟨rb, j, none⟩ = some (.slice (A (P j)) (L (P j)) (C (P j))) := cj
                                    clear HO hbw HBI HBJ
                                    generalize wr.drewN r = w5 at *
                                    obtain ⟨cu, fu⟩ := HO5.out.cell (k := j + 1) (by omega)
                                    rw [mid_low P (Nat.le_refl _)] at cu
                                    cases hless : lt (X (P i)) (X (P j)) with
                                    | true =>
                                      have HO' := (show Hid _ from HO5.out.down hj hlt)
                                      have hbw' := hbw5.setCell (p := ⟨rb, j + 1, none⟩) hrl (.slice (A (P j)) (L (P j)) (C (P j)))
                                      clear HO5 hbw5
                                      go_wp2
                                      go_roundw
                                      case rel =>
                                        refine ⟨j, by simp, by omega, HO', fun k h1 h2 => ?_, hbw'⟩
                                        rcases Nat.lt_or_ge j k with h | h
                                        · exact HUP.out k h h2
                                        · obtain rfl : k = j := by omega
                                          exact hless
                                      case measure => simp [intOf]
                                    | false =>
                                      have HO' := (show Hid _ from HO5.out.laid hj hlt)
                                      have hbw' := hbw5.setCell (p := ⟨rb, j + 1, none⟩) hrl (.slice (A (P i)) (L (P i)) (C (P i)))
                                      have HSO' := (show Hid _ from ins_sorted hj HSO.out HUP.out (fun _ => hless))
                                      have HP' := (show Hid _ from ins_onto HP.out hlt hj)
                                      clear HO5 hbw5 HSO HP HUP
                                      go_wp2
                                      go_roundw
                                      case rel => exact ⟨i + 1, ins P i (j + 1), by simp, by omega, by omega, HP', HSO', HO', hbw'⟩
                                      case measure => simp [intOf]; omega
                              · have HSN : Hid (Sorted (fun k => X (P k)) q) := fun k l h1 h2 => HSO.out k l h1 (by omega)
                                have hlt' : ¬ (i : Int) < (q : Int) := by omega
                                clear HSO hlt
                                go_wp2
                                go_loopw [17, 18] (fun v c wr => ∃ i d : Nat, v = .int .i64 d ∧ c = .int .i64 i ∧ i ≤ q ∧ d ≤ i ∧ Hid (∃ D, Dist (fun k => X (P k)) i D ∧ D.length = d) ∧ Hid (Ord wr rb q A L C P) ∧ Below w.heap.size w wr) (fun _ c _ => q - (intOf c).toNat)
                                case atStart => exact ⟨0, 0, rfl, rfl, Nat.zero_le _, Nat.le_refl _, ⟨[], dist_start _, rfl⟩, HO, hbw⟩
                                case round =>
                                  clear HO hbw
                                  obtain ⟨i, d, rfl, rfl, hi, hd, HDI, HO, hbw⟩ := hrel
                                  by_cases hlt : i < q
                                  · have hlt' : (i : Int) < (q : Int) := by omega
                                    cases i with
                                    | zero =>
                                      have HD' : Hid (∃ D, Dist (fun k => X (P k)) (0 + 1) D ∧ D.length = d + 1) := by
                                        obtain ⟨D, h1, h2⟩ := HDI.out
                                        have hD : D = [] := List.eq_nil_of_length_eq_zero (by have := h1.1; omega)
                                        subst hD
                                        exact ⟨_, h1.new (by simp), by simp at h2 ⊢; omega⟩
                                      go_wp2
                                      go_quiet (fail)
                                      go_wp2
                                      go_roundw
                                      case rel => exact ⟨0 + 1, d + 1, by simp, by simp, by omega, by omega, HD', HO.out, below_drewN hbw _⟩
                                      case measure => simp [intOf]; omega
                                    | succ i =>
                                      have HPI := HP.out.1 i (by omega)
                                      have HPJ := HP.out.1 (i + 1) hlt
                                      have c1 := (HO.out.cell (k := i) (by omega)).1
                                      have c2 := (HO.out.cell (k := i + 1) hlt).1
                                      have hiq : (i : Int) < (q : Int) := by omega
                                      have hne0 : (((i + 1 : Nat) : Int) == 0) = false := by simp; omega
                                      have hne1 : ((i : Int) + 1 == 0) = false := by simp; omega
                                      have HSAME : Hid (∀ r0, Calls Try.prog 25 #[.slice (A (P i)) (L (P i)) (C (P i)), .slice (A (P (i + 1))) (L (P (i + 1))) (C (P (i + 1)))] (wr.drewN r0) fun e w' => e = .returned (.bool (decide (X (P i) = X (P (i + 1))))) ∧ ∃ m, w' = (wr.drewN r0).drewN m) := fun r0 =>
                                        same_any _ _ _ _ _ _ w.heap.size (X (P i)) (X (P (i + 1))) _ (HZ.out _ HPI) (HZ.out _ HPJ) ((HX.out _ HPI).below (Nat.le_refl _) (below_drewN hbw r0)) ((HX.out _ HPJ).below (Nat.le_refl _) (below_drewN hbw r0))
                                      by_cases hxx : X (P i) = X (P (i + 1))
                                      · rw [decide_eq_true hxx] at HSAME
                                        have HD' : Hid (∃ D, Dist (fun k => X (P k)) (i + 1 + 1) D ∧ D.length = d) := by
                                          obtain ⟨D, h1, h2⟩ := HDI.out
                                          exact ⟨D, h1.old ((h1.2.2 _).2 ⟨i, by omega, hxx⟩), h2⟩
                                        clear hxx
                                        go_wp2
                                        go_quiet (first | (go_at_call 25; exact Calls.quiet_of (HSAME.out _)))
                                        go_wp2
                                        go_roundw
                                        case rel => exact ⟨i + 1 + 1, d, rfl, by simp, by omega, by omega, HD', HO.out, below_drewN hbw _⟩
                                        case measure => simp [intOf]; omega
                                      · rw [decide_eq_false hxx] at HSAME
                                        have HD' : Hid (∃ D, Dist (fun k => X (P k)) (i + 1 + 1) D ∧ D.length = d + 1) := by
                                          obtain ⟨D, h1, h2⟩ := HDI.out
                                          exact ⟨_, h1.new (h1.sorted_new HSN.out hlt (by omega) hxx), by simp [h2]⟩
                                        clear hxx
                                        go_wp2
                                        go_quiet (first | (go_at_call 25; exact Calls.quiet_of (HSAME.out _)))
                                        go_wp2
                                        go_roundw
                                        case rel => exact ⟨i + 1 + 1, d + 1, by simp, by simp, by omega, by omega, HD', HO.out, below_drewN hbw _⟩
                                        case measure => simp [intOf]; omega
                                  · obtain rfl : i = q := by omega
                                    have hsd : s = d := by
                                      obtain ⟨D, h1, h2⟩ := HDI.out
                                      rw [← h2, ← HLN.out]
                                      refine nodup_same HD.out.2.1 h1.2.1 fun z => ((HD.out.2.2 z).trans ?_).trans (h1.2.2 z).symm
                                      constructor
                                      · rintro ⟨m, hm, e⟩
                                        obtain ⟨k, hk, e'⟩ := HP.out.2 m hm
                                        exact ⟨k, hk, by show X (P k) = z; rw [e']; exact e⟩
                                      · rintro ⟨k, hk, e⟩
                                        exact ⟨P k, HP.out.1 k hk, e⟩
                                    subst hsd
                                    go_wp2
                                    go_ret
                                    exact ⟨by simp, hbw⟩
end Go.Proofs.Qxb6616519a
