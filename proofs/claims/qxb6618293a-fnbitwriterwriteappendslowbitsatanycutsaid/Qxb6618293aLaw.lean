/-
  THE WALK of the law.
-/
import Derived.Test.Qxb6618293aZZ
import Derived.Deep.DeepCutAuto
namespace Go.Proofs.Qxb6618293a
open Go.RowKit Pl

theorem zzBytes' (a : Option Addr) (n c : Nat) (x1 x2 x3 x4 : Value) (w : World) (hn : n ≤ maxLen) :
    Calls Try.prog 4 #[.slice a n c, x1, x2, x3, x4] w fun e w' => e = .returned (.bool (decide (n ≤ 1048576))) ∧ w = w' :=
  (zzBytes_any a n c x1 x2 x3 x4 w hn).mono fun _ _ h => ⟨h.1, h.2.symm⟩

/-- What is owned stays owned where nothing below turns. -/
theorem own_below {w w' : World} {B base e size n : Nat} {v : Value} {xs : List Value} (h : w.ownsRow base e size v n xs) (hB : w.heap.size ≤ B) (hb : Below B w w') : w'.ownsRow base e size v n xs := by
  refine ⟨h.1, ?_⟩
  rcases h.2 with h2 | ⟨g, cap, cur, hv, hg, hh, r⟩
  · exact .inl h2
  · exact .inr ⟨g, cap, cur, hv, hg, by rw [hb.block g (Nat.lt_of_lt_of_le (lt_of_block hh) hB)]; exact hh, r⟩

/-- What is asked of a slice that is copied: nil, or its cells are known. -/
def Lies (w : World) (a : Option Addr) (zs : List Int) : Prop := ∀ ad, a = some ad → 0 < zs.length → ad.block < w.heap.size ∧ ∃ b off, ad = ⟨b, off, none⟩ ∧ ∀ j, j < zs.length → w.cell? ⟨b, off + j, none⟩ = some (.int .u8 (zs.getD j 0))

theorem own_shape {w : World} {B n : Nat} {v : Value} {xs : List Value} (h : w.ownsRow B 5 1 v n xs) : ∃ a c, v = .slice a n c ∧ (a = none → n = 0 ∧ c = 0) ∧ ∀ ad, a = some ad → ∃ g, ad = ⟨g, 0, none⟩ ∧ B ≤ g ∧ g < w.heap.size := by
  rcases h.2 with ⟨rfl, rfl⟩ | ⟨g, cap, cur, rfl, hB, hg, _⟩
  · exact ⟨_, _, rfl, fun _ => ⟨rfl, rfl⟩, fun ad e => by simp at e⟩
  · exact ⟨_, _, rfl, fun e => by simp at e, fun ad e => ⟨g, by simpa using e.symm, hB, lt_of_block hg⟩⟩

theorem own_lies {w : World} {B n : Nat} {a : Option Addr} {c : Nat} {zs : List Int} (hz : zs.length = n) (h : w.ownsRow B 5 1 (.slice a n c) n (zs.map (Value.int .u8))) : Lies w a zs := by
  intro ad e _
  subst e
  obtain ⟨a, c', e, _, hs⟩ := own_shape h
  simp only [Value.slice.injEq] at e
  obtain ⟨rfl, _, rfl⟩ := e
  obtain ⟨g, rfl, _, hlt⟩ := hs _ rfl
  refine ⟨hlt, g, 0, rfl, fun j hj => ?_⟩
  rw [Nat.zero_add, h.cellAt j (by omega), List.getElem?_map, List.getElem?_eq_getElem hj, List.getD_eq_getElem?_getD, List.getElem?_eq_getElem hj]
  rfl

/-- A slice that owns at least one byte: where it lies, and its cells. -/
theorem own_at {w : World} {B n : Nat} {a : Option Addr} {c : Nat} {zs : List Int} (h : w.ownsRow B 5 1 (.slice a n c) n (zs.map (Value.int .u8))) (hn : 0 < n) : ∃ g, a = some ⟨g, 0, none⟩ ∧ ∀ j, j < n → w.cell? ⟨g, j, none⟩ = some (.int .u8 (zs.getD j 0)) := by
  obtain ⟨a', c', e, h0, hs⟩ := own_shape h
  simp only [Value.slice.injEq] at e
  obtain ⟨rfl, _, rfl⟩ := e
  have hz : zs.length = n := by simpa using h.1
  cases a with
  | none => have := (h0 rfl).1; omega
  | some ad =>
    obtain ⟨g, rfl, _⟩ := hs _ rfl
    refine ⟨g, rfl, fun j hj => ?_⟩
    rw [h.cellAt j (by omega), List.getElem?_map, List.getElem?_eq_getElem (by omega), List.getD_eq_getElem?_getD, List.getElem?_eq_getElem (by omega)]
    rfl
theorem own_nil {w : World} {B n : Nat} {a : Option Addr} {c : Nat} {xs : List Value} (h : w.ownsRow B 5 1 (.slice a n c) n xs) : a = none → n = 0 ∧ c = 0 := by
  obtain ⟨a', c', e, h0, hs⟩ := own_shape h
  simp only [Value.slice.injEq] at e
  obtain ⟨rfl, _, rfl⟩ := e
  exact h0

theorem clone_any (a : Option Addr) (n c : Nat) (zs : List Int) (w : World) (hz : zs.length = n) (hn : n ≤ 1048576) (h0 : a = none → n = 0 ∧ c = 0) (hl : Lies w a zs) :
    Calls Try.prog 5 #[.slice a n c] w fun e w' => ∃ a' c', e = .returned (.slice a' n c') ∧ w'.ownsRow w.heap.size 5 1 (.slice a' n c') n (zs.map (Value.int .u8)) ∧ Below w.heap.size w w' := by
  cases a with
  | none =>
    obtain ⟨rfl, rfl⟩ := h0 rfl
    obtain rfl := List.eq_nil_of_length_eq_zero hz
    refine (clone_nil w).mono ?_
    rintro e w' ⟨rfl, rfl⟩
    exact ⟨none, 0, rfl, World.ownsRow_nil _ _ _ _, Below.refl _ _⟩
  | some ad =>
    rcases Nat.eq_zero_or_pos n with hn0 | hn0
    · subst hn0
      obtain rfl := List.eq_nil_of_length_eq_zero hz
      refine (clone_empty ad c w).mono ?_
      rintro e w' ⟨cap, rfl, ho, hbel⟩
      exact ⟨_, cap, rfl, ho, hbel⟩
    obtain ⟨hb, b, off, rfl, hc⟩ := hl ad rfl (by omega)
    refine (clone_some b off n c zs w hz hn hb (fun j hj => hc j (by omega))).mono ?_
    rintro e w' ⟨cap, rfl, ho, hbel⟩
    exact ⟨_, cap, rfl, ho, hbel⟩

/-- ZZBitWriterWrite, the new value written out. -/
theorem zz (B : Nat) (a : Option Addr) (l c : Nat) (bs : List Int) (f : Nat → Int) (n : Nat) (x size : Int) (w : World)
    (hx0 : -9223372036854775808 ≤ x) (hx1 : x ≤ 9223372036854775807) (hm : size ≤ 65536) (hn : n ≤ 1048576) (hB : B ≤ w.heap.size) (hl : bs.length = l)
    (hown : w.ownsRow B 5 1 (.slice a l c) l (bs.map (Value.int .u8))) (hrep : Rep bs f n) :
    Calls Try.prog 6 #[.slice a l c, .int .i64 n, .int .i64 x, .int .i64 size] w fun e w' =>
      ∃ (M L : Nat) (a' : Option Addr) (c' : Nat) (bs' : List Int), M = n + size.toNat ∧ L = (M + 7) / 8 ∧ e = .returned (.tuple #[.slice a' L c', .int .i64 M]) ∧ w'.ownsRow B 5 1 (.slice a' L c') L (bs'.map (Value.int .u8)) ∧ Rep bs' (ext f n x) M ∧ Below B w w' := by
  subst hl
  refine (zzwrite_any B _ bs f n x size w hx0 hx1 hm hn hB hown hrep).mono ?_
  rintro e w' ⟨v', bs', rfl, ho, hr, hb⟩
  obtain ⟨a', c', rfl, _⟩ := own_shape ho
  have e := hr.len
  rw [e] at ho
  refine ⟨_, _, a', c', bs', rfl, rfl, ?_, ho, hr, hb⟩
  rw [e]

theorem u8bit (u : Int) (t : Nat) (h0 : 0 ≤ u) (h1 : u ≤ 255) : bits .and .u8 (u / 2 ^ t) 1 = u / 2 ^ t % 2 := by
  have p : (0 : Int) < 2 ^ t := Int.pow_pos (by decide)
  have q0 : 0 ≤ u / 2 ^ t := Int.ediv_nonneg h0 (by omega)
  have q1 : u / 2 ^ t ≤ u := Int.ediv_le_self _ h0
  exact u8_and1 _ q0 (by omega)
theorem shr_rng (x : Int) (t : Nat) (h0 : -9223372036854775808 ≤ x) (h1 : x ≤ 9223372036854775807) : -9223372036854775808 ≤ x / 2 ^ t ∧ x / 2 ^ t ≤ 9223372036854775807 := by
  have p : (0 : Int) < 2 ^ t := Int.pow_pos (by decide)
  constructor
  · have : (-9223372036854775808 : Int) * 2 ^ t ≤ x := by
      have : (1 : Int) ≤ 2 ^ t := p
      have := Int.mul_le_mul_of_nonneg_left this (show (0 : Int) ≤ 9223372036854775808 by decide)
      omega
    exact (Int.le_ediv_iff_mul_le p).2 this
  · rcases Int.lt_or_le x 0 with h | h
    · have := Int.ediv_neg_of_neg_of_pos h p; omega
    · have := Int.ediv_le_self (2 ^ t) h; omega
theorem bne_f {a b : Int} (h : a = b) : (a != b) = false := by simp [h]

set_option maxHeartbeats 4000000 in
set_option maxRecDepth 100000 in
theorem law_main (a : Option Addr) (n c : Nat) (zs : List Int) (b : Nat) (x size cut : Int) (w : World) (hz : zs.length = n) (hn : n ≤ 65536) (h0 : a = none → n = 0 ∧ c = 0)
    (hl : Lies w a zs) (hx0 : -9223372036854775808 ≤ x) (hx1 : x ≤ 9223372036854775807) (hs : size ≤ 65536) (hb : b ≤ 524288) (hnb : n = (b + 7) / 8)
    (hr : ∀ j, 0 ≤ zs.getD j 0 ∧ zs.getD j 0 ≤ 255) (htop : b % 8 ≠ 0 → zs.getD (b / 8) 0 / 2 ^ (b % 8) = 0) :
    Calls Try.prog 3 #[.slice a n c, .int .i64 b, .int .i64 x, .int .i64 size, .int .i64 cut] w fun e w' => e = .returned (.bool true) ∧ Below w.heap.size w w' := by
  have hrep : Rep zs (bitAt zs) b := Rep.of zs b (hz.trans hnb) hr htop
  have hnb1 : (n : Int) ≤ ((b : Int) + 7) / 8 := by omega
  have hnb2 : ((b : Int) + 7) / 8 ≤ (n : Int) := by omega
  have HNB : Hid (n = (b + 7) / 8) := hnb
  clear hnb
  have hzz : decide (n ≤ 1048576) = true := by simp; omega
  go_enter Try.func3, Try.ntmps3
  go_wp2_with fail
  refine (zzBytes' _ n c _ _ _ _ _ (by unfold maxLen; omega)).mono ?_
  rintro e w' ⟨rfl, rfl⟩
  rw [hzz]
  go_upto_region 11 with fail
  go_cut [62] (fun s wc => s = .bool false ∧ w = wc)
  case first =>
    by_cases h8 : b % 8 = 0
    · have h8' : ((b : Int) % 8 != 0) = false := bne_f (by omega)
      go_wp2
      go_meet
      exact ⟨rfl, rfl⟩
    · have h8' : ((b : Int) % 8 != 0) = true := by rw [bne_iff_ne]; omega
      have hn0 : n - 1 = b / 8 ∧ 0 < n := by have := HNB.out; omega
      obtain ⟨z, hzt⟩ : ∃ z, zs.getD (b / 8) 0 = z := ⟨_, rfl⟩
      have htz := htop h8
      obtain ⟨ad, rfl⟩ : ∃ ad, a = some ad := by
        cases a with
        | none => have := (h0 rfl).1; omega
        | some ad => exact ⟨ad, rfl⟩
      obtain ⟨_, bk, off, rfl, hc⟩ := hl _ rfl (by omega)
      have hcz : w.cell? ⟨bk, off + (n - 1), none⟩ = some (.int .u8 z) := by
        rw [hc (n - 1) (by omega), hn0.1, hzt]
      rw [hzt] at htz
      have htop' : (z / 2 ^ (b % 8) != 0) = false := bne_f htz
      have hn1 : 0 < n := hn0.2
      clear htz hzt hc hn0 h8 htop
      go_wp2
      go_meet
      exact ⟨rfl, rfl⟩
  case rest =>
    obtain ⟨rfl, rfl⟩ := hcut
    go_wp2_with fail
    refine (clone_any _ n c zs _ hz (by omega) h0 hl).mono ?_
    rintro e w1 ⟨a1, c1, rfl, ho1, hb1⟩
    clear hl htop h0
    obtain ⟨m, hm⟩ : ∃ m : Nat, size.toNat = m := ⟨_, rfl⟩
    have HSZ : Hid (size.toNat = m) := hm
    have hm1 : m ≤ 65536 := by omega
    clear hm
    go_upto_if 66 with fail
    go_cut [11] (fun s wc => s = .int .i64 m ∧ w1 = wc)
    case first =>
      by_cases hs0 : 0 < size
      · have e : size = (m : Int) := by have := HSZ.out; omega
        go_wp2
        go_meet
        exact ⟨by rw [e], rfl⟩
      · have e : m = 0 := by have := HSZ.out; omega
        have H : Hid (m = 0) := e
        clear e
        go_wp2
        go_meet
        exact ⟨by rw [H.out]; rfl, rfl⟩
    case rest =>
      obtain ⟨rfl, rfl⟩ := hcut
      go_wp2_with fail
      refine (clone_any _ n c1 zs _ hz (by omega) (own_nil ho1) (own_lies hz ho1)).mono ?_
      rintro e w2 ⟨a2, c2, rfl, ho2, hb2⟩
      go_wp2_with fail
      refine (zz w1.heap.size a2 n c2 zs (bitAt zs) b x size w2 hx0 hx1 hs (by omega) hb2.size hz ho2 hrep).mono ?_
      rintro e w3 ⟨M, L, a3, c3, js, hM, hL, rfl, ho3, hr3, hb3⟩
      have ho1' := own_below ho1 (Nat.le_refl _) (hb2.trans hb3)
      rw [HSZ.out] at hM
      have hM1 : (M : Int) ≤ (b : Int) + (m : Int) := by omega
      have hM2 : (b : Int) + (m : Int) ≤ (M : Int) := by omega
      have hL1 : (L : Int) ≤ ((b : Int) + (m : Int) + 7) / 8 := by omega
      have hL2 : ((b : Int) + (m : Int) + 7) / 8 ≤ (L : Int) := by omega
      have hLb : L ≤ 100000 := by omega
      have HM : Hid (M = b + m) := hM
      have HL : Hid (L = (M + 7) / 8) := hL
      have HO1 : Hid (w3.ownsRow w.heap.size 5 1 (.slice a1 n c1) n (zs.map (Value.int .u8))) := ho1'
      have HO3 : Hid (w3.ownsRow w1.heap.size 5 1 (.slice a3 L c3) L (js.map (Value.int .u8))) := ho3
      have hB3 : Below w.heap.size w w3 := (hb1.trans (hb2.mono hb1.size)).trans (hb3.mono hb1.size)
      have hw13 : w1.heap.size ≤ w3.heap.size := Nat.le_trans hb2.size hb3.size
      clear ho1 ho2 ho1' ho3 hM hL hb1 hb2 hb3
      go_wp2_with fail
      go_loop [15] (fun i => ∃ k : Nat, k ≤ 8 * L ∧ i = .int .i64 k) (fun i => 8 * L - (intOf i).toNat)
      case atStart => exact ⟨0, Nat.zero_le _, rfl⟩
      case round =>
        obtain ⟨k, hk, rfl⟩ := hrel
        by_cases hlt : k < 8 * L
        · obtain ⟨g3, rfl, hc3⟩ := own_at HO3.out (by omega)
          obtain ⟨u, hu⟩ : ∃ u, js.getD (k / 8) 0 = u := ⟨_, rfl⟩
          have hcu := hc3 (k / 8) (by omega)
          rw [hu] at hcu
          have hur : 0 ≤ u ∧ u ≤ 255 := by rw [← hu]; exact hr3.rng _
          have hbit : u / 2 ^ (k % 8) % 2 = if k < M then ext (bitAt zs) b x k else 0 := by
            have := hr3.bit k (by rw [hr3.len, ← HL.out]; exact hlt)
            unfold bitAt at this; rw [hu] at this; exact this
          have hgot := u8bit u (k % 8) hur.1 hur.2
          clear hc3 hu hur
          by_cases hkb : k < b
          · obtain ⟨g1, rfl, hc1⟩ := own_at HO1.out (by omega)
            obtain ⟨y, hy⟩ : ∃ y, zs.getD (k / 8) 0 = y := ⟨_, rfl⟩
            have hcy := hc1 (k / 8) (by omega)
            rw [hy] at hcy
            have hyr : 0 ≤ y ∧ y ≤ 255 := by rw [← hy]; exact hr _
            have hwant := u8bit y (k % 8) hyr.1 hyr.2
            have hd : (bits .and .u8 (u / 2 ^ (k % 8)) 1 != bits .and .u8 (y / 2 ^ (k % 8)) 1) = false := by
              refine bne_f ?_
              rw [hgot, hwant, hbit, if_pos (by have := HM.out; omega)]
              unfold ext bitAt
              rw [if_pos hkb, hy]
            clear hc1 hy hgot hbit hyr hwant
            go_wp2
            go_round
            case rel => exact ⟨k + 1, by omega, by go_num⟩
            case measure => simp [intOf]; omega
          · by_cases hkm : k < M
            · have hsh : ∀ W, Sem.run Try.prog (Op.shift BinOp.shr IntKind.i64 x IntKind.u64 ((k : Int) - (b : Int))) W = Result.ok (.int .i64 (x / 2 ^ (k - b))) W := by
                intro W
                rw [shift_shr_any _ _ _ _ (by omega)]
                show Result.ok _ _ = _
                rw [show ((k : Int) - (b : Int)).toNat = k - b by omega, show IntKind.i64.bits = 64 from rfl, shr_min x _ hx0 hx1]
              have hd : (bits .and .u8 (u / 2 ^ (k % 8)) 1 != bits .and .i64 (x / 2 ^ (k - b)) 1 % 256) = false := by
                refine bne_f ?_
                rw [hgot, hbit, if_pos hkm, i64_and1]
                unfold ext sbit
                rw [if_neg hkb]
                omega
              have hkm' : (k : Int) < (b : Int) + (m : Int) := by omega
              clear hgot hbit
              go_wp2
              go_round
              case rel => exact ⟨k + 1, by omega, by go_num⟩
              case measure => simp [intOf]; omega
            · have hd : (bits .and .u8 (u / 2 ^ (k % 8)) 1 != 0) = false := by
                refine bne_f ?_
                rw [hgot, hbit, if_neg hkm]
              clear hgot hbit
              go_wp2
              go_round
              case rel => exact ⟨k + 1, by omega, by go_num⟩
              case measure => simp [intOf]; omega
        · by_cases hcut : 0 ≤ cut ∧ cut ≤ size
          · obtain ⟨q, rfl⟩ := Int.eq_ofNat_of_zero_le hcut.1
            have hq2 : (q : Int) ≤ size := hcut.2
            have hqm : q ≤ m := by have := HSZ.out; omega
            clear hcut
            go_wp2_with fail
            refine (clone_any _ n c1 zs _ hz (by omega) (own_nil HO1.out) (own_lies hz HO1.out)).mono ?_
            rintro e w4 ⟨a4, c4, rfl, ho4, hb4⟩
            go_wp2_with fail
            refine (zz w3.heap.size a4 n c4 zs (bitAt zs) b x q w4 hx0 hx1 (by omega) (by omega) hb4.size hz ho4 hrep).mono ?_
            rintro e w5 ⟨M5, L5, a5, c5, ms, hM5, hL5, rfl, ho5, hr5, hb5⟩
            rw [Int.toNat_natCast] at hM5
            have HM5 : Hid (M5 = b + q) := hM5
            have hM5b : M5 ≤ 1048576 := by omega
            have hl5 : ms.length = L5 := by rw [hr5.len, hL5]
            clear ho4 hM5 hL5
            go_wp2_with fail
            refine (zz w3.heap.size a5 L5 c5 ms (ext (bitAt zs) b x) M5 _ _ w5 (shr_rng x _ hx0 hx1).1 (shr_rng x _ hx0 hx1).2 (by omega) hM5b (Nat.le_trans hb4.size hb5.size) hl5 ho5 hr5).mono ?_
            rintro e w6 ⟨M6, L6, a6, c6, ss, hM6, hL6, rfl, ho6, hr6, hb6⟩
            have e6 : M6 = M := by have := HM.out; have := HM5.out; have := HSZ.out; omega
            subst e6
            have e7 : L6 = L := hL6.trans HL.out.symm
            subst e7
            have hall : ∀ j, js.getD j 0 = ss.getD j 0 := by
              refine hr3.unique hr6 fun k _ => ?_
              rw [shr_min x q hx0 hx1, HM5.out]
              exact (ext_ext _ _ _ _ _).symm
            have hB36 : Below w3.heap.size w3 w6 := (hb4.trans hb5).trans hb6
            have HO6 : Hid (w6.ownsRow w3.heap.size 5 1 (.slice a6 L6 c6) L6 (ss.map (Value.int .u8))) := ho6
            have HO3' : Hid (w6.ownsRow w1.heap.size 5 1 (.slice a3 L6 c3) L6 (js.map (Value.int .u8))) := own_below HO3.out (Nat.le_refl _) hB36
            have hB6 : Below w.heap.size w w6 := hB3.trans (hB36.mono hB3.size)
            clear ho5 ho6 hM6 hL6 hb4 hb5 hb6 HO3 hB3 hB36
            go_wp2_with fail
            go_loopw [22] (fun i wr => ∃ j : Nat, j ≤ L6 ∧ i = .int .i64 j ∧ Below w6.heap.size w6 wr) (fun i _ => L6 - (intOf i).toNat)
            case atStart => exact ⟨0, Nat.zero_le _, rfl, Below.refl _ _⟩
            case round =>
              obtain ⟨j, hj, rfl, hbr⟩ := hrel
              by_cases hlt : j < L6
              · obtain ⟨g3, rfl, hc3⟩ := own_at (own_below HO3'.out (Nat.le_refl _) hbr) (by omega)
                obtain ⟨g6, rfl, hc6⟩ := own_at (own_below HO6.out (Nat.le_refl _) hbr) (by omega)
                have d3 := hc3 j hlt
                have d6 := hc6 j hlt
                rw [← hall j] at d6
                generalize js.getD j 0 = y at d3 d6
                clear hc3 hc6
                have hjl : (j : Int) < (L6 : Int) := by omega
                go_wp2
                go_quiet (fail)
                go_wp2
                go_roundw
                case rel => exact ⟨j + 1, by omega, by go_num, below_drewN hbr _⟩
                case measure => simp [intOf]; omega
              · go_wp2
                go_ret
                exact ⟨rfl, hB6.trans (hbr.mono hB6.size)⟩
          · by_cases hc0 : 0 ≤ cut
            · have hc1 : size < cut := by omega
              clear hcut
              go_wp2
              go_ret
              exact ⟨rfl, hB3⟩
            · clear hcut
              go_wp2
              go_ret
              exact ⟨rfl, hB3⟩
end Go.Proofs.Qxb6618293a
