/-
  THE WALK of NewAnchorSetWithHash at names that are apart.
-/
import Derived.Test.Qxb6616350aFmtNewA
import Derived.Deep.RegionHeld3
import Derived.Deep.DrawnRows
namespace Go.Proofs.Qxb6616350aFmt
open Go.RowKit Go.Maps

/-- The set's block while the names are laid. -/
def setCells (mb : Nat) : Array Value := #[.int .i32 0, .int .u32 0, .int .u64 0, .int .u32 0, .pointer none, .slice none 0 0, .nilFunc, .map (some mb), .pointer none]

/-- The row of pointers: the first i lead to the names. -/
def RowOf (w : World) (rb n i low : Nat) (f : Nat → ByteArray) : Prop :=
  ∃ xs : Array Value, w.heap[rb]? = some (.cells xs 74 (0, 0)) ∧ xs.size = n ∧ ∀ j, j < i → ∃ g, xs[j]? = some (.pointer (some ⟨g, 0, none⟩)) ∧ w.heap[g]? = some (.cells #[.string (f j)] 9 (0, 0)) ∧ low ≤ g

structure Laying (w : World) (B n i : Nat) (f : Nat → ByteArray) : Prop where
  set : w.heap[B + 1]? = some (.cells (setCells B) 65 (0, 0))
  tab : w.heap[B + 1 + 1 + 1]? = some (.cells #[.slice (some ⟨B + 1 + 1, 0, none⟩) n n] 68 (0, 0))
  row : RowOf w (B + 1 + 1) n i (B + 1 + 1 + 1 + 1) f
  map : MapOf w B i f

theorem Laying.alloc {w : World} {B n i : Nat} {f : Nat → ByteArray} (h : Laying w B n i f) (o : Obj) : Laying (w.alloc o) B n i f := by
  obtain ⟨h1, h2, ⟨xs, h3, h4, h5⟩, ⟨D, h6, h7⟩⟩ := h
  refine ⟨?_, ?_, ⟨xs, ?_, h4, fun j hj => ?_⟩, ⟨D, h6.alloc o, h7⟩⟩
  · rw [Below.heap_alloc _ _ _ (lt_of_block h1)]; exact h1
  · rw [Below.heap_alloc _ _ _ (lt_of_block h2)]; exact h2
  · rw [Below.heap_alloc _ _ _ (lt_of_block h3)]; exact h3
  · obtain ⟨g, hx, hg, hlow⟩ := h5 j hj
    exact ⟨g, hx, by rw [Below.heap_alloc _ _ _ (lt_of_block hg)]; exact hg, hlow⟩
theorem Laying.drewN {w : World} {B n i : Nat} {f : Nat → ByteArray} (h : Laying w B n i f) (q : Nat) : Laying (w.drewN q) B n i f := ⟨h.set, h.tab, h.row, h.map⟩
theorem Laying.drew {w : World} {B n i : Nat} {f : Nat → ByteArray} (h : Laying w B n i f) : Laying w.drew B n i f := ⟨h.set, h.tab, h.row, h.map⟩

theorem nth3 (w : World) (o1 o2 o3 o4 : Obj) : ((((w.alloc o1).alloc o2).alloc o3).alloc o4).heap[w.heap.size + 1 + 1 + 1]? = some o4 := by
  have h := heap_alloc_new (((w.alloc o1).alloc o2).alloc o3) o4
  rwa [size1, size1, size1] at h
theorem nth1 (w : World) (o1 o2 : Obj) : ((w.alloc o1).alloc o2).heap[w.heap.size + 1]? = some o2 := by
  have h := heap_alloc_new (w.alloc o1) o2
  rwa [size1] at h

theorem laying_start (w : World) (n : Nat) (f : Nat → ByteArray) : Laying ((((w.alloc (.map #[] 0)).alloc (.cells (setCells w.heap.size) 65)).alloc (.cells (madeCells #[.pointer none] n) 74)).alloc (.cells #[.slice (some ⟨w.heap.size + 1 + 1, 0, none⟩) n n] 68)) w.heap.size n 0 f := by
  refine ⟨?_, nth3 _ _ _ _ _, ⟨madeCells #[.pointer none] n, ?_, size_madeCells _ _, fun j hj => by omega⟩, ⟨.map [], ?_, fun s h => ?_⟩⟩
  · rw [Below.heap_alloc _ _ _ (by simp), Below.heap_alloc _ _ _ (by simp)]
    exact nth1 _ _ _
  · rw [Below.heap_alloc _ _ _ (by simp)]
    exact new2 _ _ _ _
  · exact (((World.ownsMap_made w _ _ _).alloc _).alloc _).alloc _
  · simp [has] at h

/-- Behind 'm[name] = i'. -/
theorem Laying.stored {w w' : World} {B n i : Nat} {f : Nat → ByteArray} (h : Laying w B n i f) (hm : MapOf w' B (i + 1) f) (hg : w.grownBy w' (some B)) :
    w'.heap[B + 1]? = some (.cells (setCells B) 65 (0, 0)) ∧ w'.heap[B + 1 + 1 + 1]? = some (.cells #[.slice (some ⟨B + 1 + 1, 0, none⟩) n n] 68 (0, 0)) ∧ RowOf w' (B + 1 + 1) n i (B + 1 + 1 + 1 + 1) f ∧ MapOf w' B (i + 1) f := by
  obtain ⟨h1, h2, ⟨xs, h3, h4, h5⟩, _⟩ := h
  have hb : ∀ k o, w.heap[k]? = some o → B < k → w'.heap[k]? = some o := fun k o hk hlt => by
    rw [hg.block k (lt_of_block hk) (by simp; omega)]; exact hk
  refine ⟨hb _ _ h1 (by omega), hb _ _ h2 (by omega), ⟨xs, hb _ _ h3 (by omega), h4, fun j hj => ?_⟩, hm⟩
  obtain ⟨g, hx, hg', hlow⟩ := h5 j hj
  exact ⟨g, hx, hb _ _ hg' (by omega), hlow⟩

/-- Behind 'table.names[i].Store(&name)'. -/
theorem laid_one {w : World} {B n i g : Nat} {f : Nat → ByteArray} {s : ByteArray} (hi : i < n) (h1 : w.heap[B + 1]? = some (.cells (setCells B) 65 (0, 0))) (h2 : w.heap[B + 1 + 1 + 1]? = some (.cells #[.slice (some ⟨B + 1 + 1, 0, none⟩) n n] 68 (0, 0)))
    (h3 : RowOf w (B + 1 + 1) n i (B + 1 + 1 + 1 + 1) f) (h4 : MapOf w B (i + 1) f) (hg : w.heap[g]? = some (.cells #[.string s] 9 (0, 0))) (hlow : B + 1 + 1 + 1 < g) (hf : f i = s) :
    Laying (w.setCell ⟨B + 1 + 1, i, none⟩ (.pointer (some ⟨g, 0, none⟩))) B n (i + 1) f := by
  obtain ⟨xs, hx, hxs, hj⟩ := h3
  have hb : ∀ k o, w.heap[k]? = some o → k ≠ B + 1 + 1 → (w.setCell ⟨B + 1 + 1, i, none⟩ (.pointer (some ⟨g, 0, none⟩))).heap[k]? = some o := fun k o hk hne => by
    rw [Below.heap_setCell _ _ _ _ (by simpa using hne)]; exact hk
  obtain ⟨D, h5, h6⟩ := h4
  refine ⟨hb _ _ h1 (by omega), hb _ _ h2 (by omega), ⟨_, heap_setCell_same w (B + 1 + 1) i xs 74 _ hx, by simpa using hxs, fun j hjj => ?_⟩, ⟨D, h5.setCell (by simp; omega) _, h6⟩⟩
  rcases Nat.lt_or_ge j i with h | h
  · obtain ⟨g', e1, e2, e3⟩ := hj j h
    exact ⟨g', by rw [Array.getElem?_setIfInBounds_ne (by omega)]; exact e1, hb _ _ e2 (by omega), e3⟩
  · obtain rfl : j = i := by omega
    refine ⟨g, ?_, by rw [hf]; exact hb _ _ hg (by omega), by omega⟩
    rw [Array.getElem?_setIfInBounds_self_of_lt (by omega)]

theorem fresh_end {wr w2 : World} {B n : Nat} {f : Nat → ByteArray} (h : Laying wr B n n f) (hl : Left (B + 1) (setCells B) wr w2) :
    ∃ xs, Fresh (w2.setCell ⟨B + 1, 8, none⟩ (.pointer (some ⟨B + 1 + 1 + 1, 0, none⟩))) (B + 1) n f (B + 1 + 1 + 1) (B + 1 + 1) n xs := by
  obtain ⟨h1, h2, ⟨xs, hx, hxs, hj⟩, h4⟩ := h
  obtain ⟨hk, ⟨p, q, hs⟩, _⟩ := hl
  have hb : ∀ k o, wr.heap[k]? = some o → k ≠ B + 1 → (w2.setCell ⟨B + 1, 8, none⟩ (.pointer (some ⟨B + 1 + 1 + 1, 0, none⟩))).heap[k]? = some o := fun k o hko hne => by
    rw [Below.heap_setCell _ _ _ _ (by simpa using hne), hk k (lt_of_block hko) hne]; exact hko
  have hset := heap_setCell_same w2 (B + 1) 8 _ 65 (.pointer (some ⟨B + 1 + 1 + 1, 0, none⟩)) hs
  refine ⟨xs, ⟨?_, ?_, hb _ _ h2 (by omega), hb _ _ hx (by omega), fun j hjn => ?_⟩⟩
  · simp only [World.cell?]
    rw [hset]
    rfl
  · simp only [World.cell?]
    rw [hset]
    rfl
  · obtain ⟨g, e1, e2, e3⟩ := hj j hjn
    exact ⟨g, e1, hb _ _ e2 (by omega)⟩

theorem below_left {w wr w2 : World} {B : Nat} {cs : Array Value} (hb : Below B w wr) (hB : B + 1 < wr.heap.size) (hl : Left (B + 1) cs wr w2) : Below B w w2 := by
  obtain ⟨hk, _, ht, ho, hp, hz⟩ := hl
  exact ⟨ho.trans hb.os, ht.trans hb.tape, hp.trans hb.output, Nat.le_trans hb.size hz, fun k hkB => (hk k (by omega) (by omega)).trans (hb.block k hkB)⟩

set_option maxRecDepth 100000 in
set_option maxHeartbeats 1000000 in
theorem new_ok (cap : Int) (a : Option Addr) (n c : Nat) (f : Nat → ByteArray) (w : World) (hn : n ≤ 4096) (hc0 : (cap == 0) = false) (hnc : (n : Int) ≤ cap) (hcm : cap ≤ 4294967295) (hl : Lies w a n f) (hap : Apart f n) (hsz : ∀ j, j < n → (f j).size ≤ 1048576) :
    Calls Tryf.prog 8 #[.int .u32 cap, .slice a n c, .nilFunc] w fun e w' => ∃ sb tb rb cc xs, e = .returned (.tuple #[.pointer (some ⟨sb, 0, none⟩), .nilIface]) ∧ Fresh w' sb n f tb rb cc xs ∧ Below w.heap.size w w' := by
  have HL := (show Hid _ from hl)
  have HA := (show Hid _ from hap)
  have HS := (show Hid _ from hsz)
  clear hl hap hsz
  have hmm := fun W => makeMap_n W n
  have hmk := fun W => make74 W n hn
  go_enter Tryf.func8, Tryf.ntmps8
  go_wp2
  go_loopw [43] (fun c wr => ∃ i : Nat, c = .int .i64 i ∧ i ≤ n ∧ Laying wr w.heap.size n i f ∧ Below w.heap.size w wr) (fun c _ => n - (intOf c).toNat)
  case atStart =>
    exact ⟨0, rfl, Nat.zero_le _, laying_start w n f, ((((Below.refl _ w).alloc (Nat.le_refl _) _).alloc (by simp) _).alloc (by simp; omega) _).alloc (by simp; omega) _⟩
  case round =>
    clear hmm hmk
    obtain ⟨i, rfl, hi, hlay, hbel⟩ := hrel
    by_cases hlt : i < n
    · obtain ⟨bk, off, rfl, hb, hcell⟩ := HL.out (by omega)
      have hc : wr.cell? ⟨bk, off + i, none⟩ = some (.string (f i)) := (hbel.cell hb).trans (hcell i hlt)
      clear hcell
      obtain ⟨hemp, hne⟩ := HA.out i hlt
      have hss := HS.out i hlt
      obtain ⟨s, hsk⟩ : ∃ s, f i = s := ⟨_, rfl⟩
      rw [hsk] at hc hemp hne hss
      have HF : Hid (f i = s) := hsk
      have HN : Hid (∀ j, j < i → f j ≠ s) := hne
      clear hsk hne
      have hlt' : (i : Int) < (n : Int) := by omega
      go_wp2
      have L1 := hlay.alloc (.cells #[.string s] 9)
      have hg := heap_alloc_new wr (.cells #[.string s] 9)
      have hb1 := hbel.alloc hbel.size (.cells #[.string s] 9)
      have hlow := lt_of_block hlay.tab
      clear hlay hbel hc
      generalize hW1 : wr.alloc (.cells #[.string s] 9) = W1 at *
      obtain ⟨g, hgg⟩ : ∃ g, wr.heap.size = g := ⟨_, rfl⟩
      rw [hgg] at hg hlow
      rw [hgg]
      clear hgg hW1
      have cg : W1.cell? ⟨g, 0, none⟩ = some (.string s) := one_cell hg
      have cs7 : W1.cell? ⟨w.heap.size + 1, 7, none⟩ = some (.map (some w.heap.size)) := by simp only [World.cell?]; rw [L1.set]; rfl
      have hlook := L1.map.look s (by unfold maxLen; omega) HN.out
      have hlook2 := fun q => (L1.drewN q).map.look s (by unfold maxLen; omega) HN.out
      go_quiet (fail)
      replace L1 := L1.drewN nq
      replace hb1 := below_drewN hb1 nq
      replace hg : (W1.drewN nq).heap[g]? = some (.cells #[.string s] 9 (0, 0)) := hg
      replace cg : (W1.drewN nq).cell? ⟨g, 0, none⟩ = some (.string s) := cg
      replace cs7 : (W1.drewN nq).cell? ⟨w.heap.size + 1, 7, none⟩ = some (.map (some w.heap.size)) := cs7
      clear hlook hlook2
      generalize W1.drewN nq = W2 at *
      go_wp2_with fail
      refine (check_ok s hemp _).mono ?_
      rintro e w1 ⟨rfl, rfl⟩
      go_wp2
      obtain ⟨W3, hup, hm3, hg3⟩ := L1.drew.map.store s (by omega) (by unfold maxLen; omega) HF.out
      go_region
      obtain ⟨e1, e2, e3, e4⟩ := L1.drew.stored hm3 hg3
      have hg' : W3.heap[g]? = some (.cells #[.string s] 9 (0, 0)) := by
        rw [hg3.block g (by exact lt_of_block hg) (by simp; omega)]; exact hg
      have hb3 : Below w.heap.size w W3 := hb1.drew.grown hg3 (by exact hb1.size) (fun k hk => by cases hk; exact Nat.le_refl _)
      clear hup hm3 hg3 L1 hb1 hg cg cs7
      have ct := one_cell e2
      have cg := one_cell hg'
      obtain ⟨u, cr, fr⟩ : ∃ u, W3.cell? ⟨w.heap.size + 1 + 1, i, none⟩ = some u ∧ W3.frozen? ⟨w.heap.size + 1 + 1, i, none⟩ = false := by
        obtain ⟨xs, hx, hxs, _⟩ := e3
        refine ⟨xs[i]'(by omega), ?_, ?_⟩
        · simp only [World.cell?]
          rw [hx]
          simp [show i < xs.size by omega]
        · simp only [World.frozen?]
          rw [hx]
          simp
      go_wp2_with fail
      refine (store_str (w.heap.size + 1 + 1) i g u _ _ cr fr cg).mono ?_
      rintro e w1 ⟨rfl, rfl⟩
      go_wp2
      go_roundw
      case rel =>
        exact ⟨i + 1, by simp, by omega, laid_one hlt e1 e2 e3 e4 hg' hlow HF.out, hb3.setCell (by simp; omega) _⟩
      case measure => simp [intOf]; omega
    · obtain rfl : i = n := by omega
      go_wp2_with fail
      refine (setUp (w.heap.size + 1) i cap (setCells w.heap.size) _ hn hc0 hnc hlay.set rfl).mono ?_
      rintro e w2 ⟨rfl, hleft⟩
      have hB : w.heap.size + 1 < wr.heap.size := lt_of_block hlay.set
      have hb2 := below_left hbel hB hleft
      obtain ⟨xs, hfr⟩ := fresh_end hlay hleft
      have hT : w2.cell? ⟨w.heap.size + 1 + 1 + 1, 0, none⟩ = some (.slice (some ⟨w.heap.size + 1 + 1, 0, none⟩) i i) := by
        refine one_cell (t := 68) ?_
        rw [hleft.1 _ (lt_of_block hlay.tab) (by omega)]; exact hlay.tab
      obtain ⟨u, c8, f8⟩ : ∃ u, w2.cell? ⟨w.heap.size + 1, 8, none⟩ = some u ∧ w2.frozen? ⟨w.heap.size + 1, 8, none⟩ = false := by
        obtain ⟨_, ⟨p, q, hs⟩, _⟩ := hleft
        refine ⟨.pointer none, ?_, ?_⟩
        · simp only [World.cell?]
          rw [hs]
          rfl
        · simp only [World.frozen?]
          rw [hs]
          simp
      clear hleft hlay hbel
      go_wp2_with fail
      refine (store_tab (w.heap.size + 1) 8 (w.heap.size + 1 + 1 + 1) u _ _ c8 f8 hT).mono ?_
      rintro e w1 ⟨rfl, rfl⟩
      go_wp2
      go_ret2
      exact ⟨_, _, _, _, xs, rfl, hfr, hb2.setCell (by simp) _⟩

theorem zznew_ok (cap : Int) (a : Option Addr) (n c : Nat) (f : Nat → ByteArray) (w : World) (hn : n ≤ 4096) (hc0 : (cap == 0) = false) (hnc : (n : Int) ≤ cap) (hcm : cap ≤ 4294967295) (hl : Lies w a n f) (hap : Apart f n) (hsz : ∀ j, j < n → (f j).size ≤ 1048576) :
    Calls Tryf.prog 6 #[.int .u32 cap, .slice a n c] w fun e w' => ∃ sb tb rb cc xs, e = .returned (.tuple #[.pointer (some ⟨sb, 0, none⟩), .nilIface]) ∧ Fresh w' sb n f tb rb cc xs ∧ Below w.heap.size w w' := by
  go_enter Tryf.func6, Tryf.ntmps6
  go_wp2_with fail
  refine (new_ok cap a n c f _ hn hc0 hnc hcm hl hap hsz).mono ?_
  rintro e w1 ⟨sb, tb, rb, cc, xs, rfl, hfr, hb⟩
  go_wp2
  go_ret2
  exact ⟨_, _, _, _, xs, rfl, hfr, hb⟩
end Go.Proofs.Qxb6616350aFmt
