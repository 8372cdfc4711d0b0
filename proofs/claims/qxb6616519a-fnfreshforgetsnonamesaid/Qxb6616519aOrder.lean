/-
  THE PLAIN LAW behind the law of the distinct names: an order on names; what an insertion leaves; two lists without repeats that have the same members are as long.
-/
import Derived.Test.Qxb6616519aFresh
namespace Go.Proofs.Qxb6616519a

/-- lessBytes, plain. -/
def lt : List Int → List Int → Bool
  | [], [] => false
  | [], _ :: _ => true
  | _ :: _, [] => false
  | x :: xs, y :: ys => if x = y then lt xs ys else decide (x < y)

theorem lt_irrefl : ∀ xs, lt xs xs = false
  | [] => rfl
  | x :: xs => by simp [lt, lt_irrefl xs]
theorem lt_asymm : ∀ xs ys, lt xs ys = true → lt ys xs = false
  | [], [], h => by simp [lt] at h
  | [], _ :: _, _ => rfl
  | _ :: _, [], h => by simp [lt] at h
  | x :: xs, y :: ys, h => by
    simp only [lt] at h ⊢
    by_cases e : x = y
    · rw [if_pos e] at h
      rw [if_pos e.symm]
      exact lt_asymm xs ys h
    · rw [if_neg e] at h
      rw [if_neg (fun e' => e e'.symm)]
      simp at h ⊢
      omega
theorem lt_anti : ∀ xs ys, lt xs ys = false → lt ys xs = false → xs = ys
  | [], [], _, _ => rfl
  | [], _ :: _, h, _ => by simp [lt] at h
  | _ :: _, [], _, h => by simp [lt] at h
  | x :: xs, y :: ys, h, h' => by
    simp only [lt] at h h'
    by_cases e : x = y
    · rw [if_pos e] at h
      rw [if_pos e.symm] at h'
      rw [e, lt_anti xs ys h h']
    · rw [if_neg e] at h
      rw [if_neg (fun e' => e e'.symm)] at h'
      simp at h h'
      omega
theorem le_trans' : ∀ xs ys zs, lt ys xs = false → lt zs ys = false → lt zs xs = false
  | [], _, [], _, _ => rfl
  | [], [], _ :: _, _, _ => rfl
  | [], _ :: _, _ :: _, _, _ => rfl
  | _ :: _, [], _, h, _ => by simp [lt] at h
  | _ :: _, _ :: _, [], _, h => by simp [lt] at h
  | x :: xs, y :: ys, z :: zs, h, h' => by
    simp only [lt] at h h' ⊢
    by_cases e1 : y = x
    · rw [if_pos e1] at h
      by_cases e2 : z = y
      · rw [if_pos e2] at h'
        rw [if_pos (e2.trans e1)]
        exact le_trans' xs ys zs h h'
      · rw [if_neg e2] at h'
        rw [if_neg (fun e => e2 (e.trans e1.symm))]
        simp at h' ⊢
        omega
    · rw [if_neg e1] at h
      by_cases e2 : z = y
      · rw [if_neg (fun e => e1 (e2.symm.trans e))]
        simp at h ⊢
        omega
      · rw [if_neg e2] at h'
        simp at h h'
        rw [if_neg (by omega)]
        simp
        omega

/-- The first place at which two names part decides. -/
theorem lt_at : ∀ (k : Nat) (xs ys : List Int), k < xs.length → k < ys.length → (∀ j, j < k → xs.getD j 0 = ys.getD j 0) → xs.getD k 0 ≠ ys.getD k 0 → lt xs ys = decide (xs.getD k 0 < ys.getD k 0)
  | 0, x :: xs, y :: ys, _, _, _, hne => by
    simp at hne
    simp [lt, hne]
  | k + 1, x :: xs, y :: ys, h1, h2, he, hne => by
    have e0 : x = y := by simpa using he 0 (by omega)
    have ih := lt_at k xs ys (by simpa using h1) (by simpa using h2) (fun j hj => by simpa using he (j + 1) (by omega)) (by simpa using hne)
    simp only [lt, if_pos e0, ih]
    simp
  | _, [], _, h, _, _, _ => by simp at h
  | _, _ :: _, [], _, h, _, _ => by simp at h
/-- .. and where they part nowhere, the length does. -/
theorem lt_end : ∀ (xs ys : List Int), (∀ j, j < xs.length → j < ys.length → xs.getD j 0 = ys.getD j 0) → lt xs ys = decide (xs.length < ys.length)
  | [], [], _ => by simp [lt]
  | [], _ :: _, _ => by simp [lt]
  | _ :: _, [], _ => by simp [lt]
  | x :: xs, y :: ys, he => by
    have e0 : x = y := by simpa using he 0 (by simp) (by simp)
    have ih := lt_end xs ys fun j h1 h2 => by simpa using he (j + 1) (by simpa using h1) (by simpa using h2)
    simp only [lt, if_pos e0, ih]
    simp

/-- The first i of order are sorted. -/
def Sorted (Y : Nat → List Int) (i : Nat) : Prop := ∀ k l, k < l → l < i → lt (Y l) (Y k) = false
/-- P comes to every index below n, and to no other. -/
def Onto (P : Nat → Nat) (n : Nat) : Prop := (∀ k, k < n → P k < n) ∧ ∀ m, m < n → ∃ k, k < n ∧ P k = m
/-- Element i put at place j; those from j on moved up. -/
def ins (P : Nat → Nat) (i j : Nat) : Nat → Nat := fun k => if k < j then P k else if k = j then P i else if k ≤ i then P (k - 1) else P k

theorem ins_onto {P : Nat → Nat} {n i j : Nat} (h : Onto P n) (hi : i < n) (hj : j ≤ i) : Onto (ins P i j) n := by
  refine ⟨fun k hk => ?_, fun m hm => ?_⟩
  · unfold ins
    split
    · exact h.1 k hk
    · split
      · exact h.1 i hi
      · split
        · exact h.1 _ (by omega)
        · exact h.1 k hk
  · obtain ⟨k, hk, e⟩ := h.2 m hm
    rcases Nat.lt_trichotomy k i with hki | hki | hki
    · rcases Nat.lt_or_ge k j with hkj | hkj
      · exact ⟨k, hk, by unfold ins; rw [if_pos hkj]; exact e⟩
      · exact ⟨k + 1, by omega, by unfold ins; rw [if_neg (by omega), if_neg (by omega), if_pos (by omega)]; exact e⟩
    · subst hki
      exact ⟨j, by omega, by unfold ins; rw [if_neg (by omega), if_pos rfl]; exact e⟩
    · exact ⟨k, hk, by unfold ins; rw [if_neg (by omega), if_neg (by omega), if_neg (by omega)]; exact e⟩

theorem ins_sorted {X : Nat → List Int} {P : Nat → Nat} {i j : Nat} (hj : j ≤ i) (h : Sorted (fun k => X (P k)) i) (hup : ∀ k, j ≤ k → k < i → lt (X (P i)) (X (P k)) = true) (hlo : 0 < j → lt (X (P i)) (X (P (j - 1))) = false) :
    Sorted (fun k => X (ins P i j k)) (i + 1) := by
  intro k l hkl hl
  have up : ∀ q, q < j → ins P i j q = P q := fun q hq => by unfold ins; rw [if_pos hq]
  have at_ : ins P i j j = P i := by unfold ins; rw [if_neg (by omega), if_pos rfl]
  have dn : ∀ q, j < q → q ≤ i → ins P i j q = P (q - 1) := fun q h1 h2 => by unfold ins; rw [if_neg (by omega), if_neg (by omega), if_pos h2]
  show lt (X (ins P i j l)) (X (ins P i j k)) = false
  rcases Nat.lt_trichotomy l j with hlj | hlj | hlj
  · rw [up l hlj, up k (by omega)]
    exact h k l hkl (by omega)
  · subst hlj
    rw [at_, up k hkl]
    have h1 := hlo (by omega)
    rcases Nat.lt_or_ge k (l - 1) with hk | hk
    · exact le_trans' _ _ _ (h k (l - 1) hk (by omega)) h1
    · obtain rfl : k = l - 1 := by omega
      exact h1
  · rw [dn l hlj (by omega)]
    rcases Nat.lt_trichotomy k j with hkj | hkj | hkj
    · rw [up k hkj]
      exact h k (l - 1) (by omega) (by omega)
    · subst hkj
      rw [at_]
      exact lt_asymm _ _ (hup (l - 1) (by omega) (by omega))
    · rw [dn k hkj (by omega)]
      exact h (k - 1) (l - 1) (by omega) (by omega)

theorem nodup_le : ∀ (l1 l2 : List (List Int)), l1.Nodup → (∀ s, s ∈ l1 → s ∈ l2) → l1.length ≤ l2.length
  | [], _, _, _ => by simp
  | a :: t, l2, h, hs => by
    have hnd := List.nodup_cons.1 h
    have ha : a ∈ l2 := hs a (by simp)
    have ih := nodup_le t (l2.erase a) hnd.2 fun s hst => (List.mem_erase_of_ne (fun (e : s = a) => hnd.1 (by rw [← e]; exact hst))).2 (hs s (by simp [hst]))
    have hl := List.length_erase_of_mem ha
    have hp : 0 < l2.length := List.length_pos_of_mem ha
    simp
    omega
theorem nodup_same {l1 l2 : List (List Int)} (h1 : l1.Nodup) (h2 : l2.Nodup) (h : ∀ s, s ∈ l1 ↔ s ∈ l2) : l1.length = l2.length :=
  Nat.le_antisymm (nodup_le l1 l2 h1 fun s => (h s).1) (nodup_le l2 l1 h2 fun s => (h s).2)

/-- The distinct names among the first i. -/
def Dist (Y : Nat → List Int) (i : Nat) (D : List (List Int)) : Prop := D.length ≤ i ∧ D.Nodup ∧ ∀ s, s ∈ D ↔ ∃ j, j < i ∧ Y j = s
theorem dist_start (Y : Nat → List Int) : Dist Y 0 [] := ⟨by simp, by simp, fun s => ⟨fun h => by simp at h, fun ⟨j, hj, _⟩ => by omega⟩⟩
theorem Dist.old {Y : Nat → List Int} {i : Nat} {D : List (List Int)} (h : Dist Y i D) (hin : Y i ∈ D) : Dist Y (i + 1) D := by
  refine ⟨by have := h.1; omega, h.2.1, fun s => ⟨fun hs => ?_, fun ⟨j, e1, e2⟩ => ?_⟩⟩
  · obtain ⟨j, e1, e2⟩ := (h.2.2 s).1 hs
    exact ⟨j, by omega, e2⟩
  · rcases Nat.lt_or_ge j i with hj | hj
    · exact (h.2.2 s).2 ⟨j, hj, e2⟩
    · obtain rfl : j = i := by omega
      rw [← e2]; exact hin
theorem Dist.new {Y : Nat → List Int} {i : Nat} {D : List (List Int)} (h : Dist Y i D) (hno : ¬ Y i ∈ D) : Dist Y (i + 1) (D ++ [Y i]) := by
  refine ⟨by have := h.1; simp; omega, ?_, fun s => ?_⟩
  · rw [List.nodup_append]
    refine ⟨h.2.1, by simp, fun a ha b hb e => ?_⟩
    simp at hb
    rw [e, hb] at ha
    exact hno ha
  · rw [List.mem_append, List.mem_singleton]
    constructor
    · rintro (hs | rfl)
      · obtain ⟨j, e1, e2⟩ := (h.2.2 s).1 hs
        exact ⟨j, by omega, e2⟩
      · exact ⟨i, by omega, rfl⟩
    · rintro ⟨j, e1, e2⟩
      rcases Nat.lt_or_ge j i with hj | hj
      · exact .inl ((h.2.2 s).2 ⟨j, hj, e2⟩)
      · obtain rfl : j = i := by omega
        exact .inr e2.symm
/-- In a sorted row a name that is not its neighbour's is new. -/
theorem Dist.sorted_new {Y : Nat → List Int} {i n : Nat} {D : List (List Int)} (h : Dist Y i D) (hs : Sorted Y n) (hi : i < n) (hpos : 0 < i) (hne : Y (i - 1) ≠ Y i) : ¬ Y i ∈ D := by
  intro hin
  obtain ⟨j, hj, e⟩ := (h.2.2 _).1 hin
  rcases Nat.lt_or_ge j (i - 1) with hji | hji
  · have h1 := hs j (i - 1) hji (by omega)
    have h2 := hs (i - 1) i (by omega) hi
    rw [e] at h1
    exact hne (lt_anti _ _ h1 h2)
  · obtain rfl : j = i - 1 := by omega
    exact hne e
end Go.Proofs.Qxb6616519a
