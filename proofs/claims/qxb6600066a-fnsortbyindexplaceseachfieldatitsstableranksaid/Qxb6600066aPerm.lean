/- The plain law of a stable insertion sort: no Go in sight. 'p j': the number (place before the sort) of the element at place j. -/
namespace Go.Proofs.Qxb6600066a.perm

/-- q comes before r: by its index, then by its number. -/
def lt (I : Nat → Int) (a b : Nat) : Prop := I a < I b ∨ (I a = I b ∧ a < b)

structure Inv (I : Nat → Int) (k : Nat) (p : Nat → Nat) : Prop where
  fix : ∀ j, k ≤ j → p j = j
  rng : ∀ j, j < k → p j < k
  srt : ∀ i j, i < j → j < k → lt I (p i) (p j)
  sur : ∀ q, q < k → ∃ j, j < k ∧ p j = q

theorem lt_trans {I : Nat → Int} {a b c : Nat} (h : lt I a b) (k : lt I b c) : lt I a c := by
  unfold lt at *; omega
theorem lt_irrefl {I : Nat → Int} {a : Nat} (h : lt I a a) : False := by unfold lt at h; omega

theorem Inv.start (I : Nat → Int) : Inv I 1 (fun i => i) :=
  ⟨fun _ _ => rfl, fun _ h => h, fun i j h1 h2 => by omega, fun q h => ⟨q, h, rfl⟩⟩
theorem Inv.zero (I : Nat → Int) {p : Nat → Nat} (h : Inv I 1 p) : Inv I 0 p := by
  refine ⟨fun j _ => ?_, fun j hj => by omega, fun i j _ hj => by omega, fun q hq => by omega⟩
  by_cases h1 : 1 ≤ j
  · exact h.fix j h1
  · have := h.rng 0 (by omega)
    have e : j = 0 := by omega
    subst e; omega

theorem Inv.le {I : Nat → Int} {k : Nat} {p : Nat → Nat} (h : Inv I k p) {i j : Nat} (hij : i ≤ j) (hj : j < k) : I (p i) ≤ I (p j) := by
  by_cases e : i = j
  · subst e; exact Int.le_refl _
  · have := h.srt i j (by omega) hj
    unfold lt at this; omega

/-- The new element is no smaller than the last: it stays. -/
theorem Inv.keep {I : Nat → Int} {m : Nat} {p : Nat → Nat} (h : Inv I (m + 1) p) (hge : I (p m) ≤ I (p (m + 1))) : Inv I (m + 2) p := by
  have hf : p (m + 1) = m + 1 := h.fix (m + 1) (Nat.le_refl _)
  refine ⟨fun j hj => h.fix j (by omega), fun j hj => ?_, fun i j hij hj => ?_, fun q hq => ?_⟩
  · by_cases e : j = m + 1
    · subst e; omega
    · have := h.rng j (by omega); omega
  · by_cases e : j = m + 1
    · subst e
      have h1 := h.le (i := i) (j := m) (by omega) (by omega)
      have h2 := h.rng i (by omega)
      rw [hf] at hge ⊢
      unfold lt; omega
    · exact h.srt i j hij (by omega)
  · by_cases e : q = m + 1
    · exact ⟨m + 1, by omega, by omega⟩
    · obtain ⟨j, hj, e2⟩ := h.sur q (by omega)
      exact ⟨j, by omega, e2⟩

/-- What lies in the slice while the hole is at j: the elements behind it, up to place k, have moved on by one. -/
def mid (p : Nat → Nat) (j x k : Nat) : Nat → Nat := fun i => if i < j then p i else if i = j then x else if i ≤ k then p (i - 1) else p i

theorem mid_start (p : Nat → Nat) (k i : Nat) : mid p k (p k) k i = p i := by
  unfold mid
  by_cases h1 : i < k
  · rw [if_pos h1]
  · rw [if_neg h1]
    by_cases h2 : i = k
    · rw [if_pos h2, h2]
    · rw [if_neg h2, if_neg (by omega)]
theorem mid_at (p : Nat → Nat) (j x k : Nat) {i : Nat} (h : i < j) : mid p j x k i = p i := by unfold mid; rw [if_pos h]
theorem mid_step (p : Nat → Nat) (l x k : Nat) (hk : l + 1 ≤ k) (i : Nat) : (if i = l + 1 then p l else mid p (l + 1) x k i) = mid p l (p l) k i := by
  unfold mid
  by_cases h1 : i = l + 1
  · subst h1
    rw [if_pos rfl, if_neg (by omega), if_neg (by omega), if_pos hk]; rfl
  · rw [if_neg h1]
    by_cases h2 : i < l + 1
    · rw [if_pos h2]
      by_cases h3 : i < l
      · rw [if_pos h3]
      · rw [if_neg h3, if_pos (by omega), show i = l by omega]
    · have n1 : ¬ i < l := by omega
      have n2 : ¬ i = l := by omega
      simp only [if_neg h2, if_neg h1, if_neg n1, if_neg n2]
theorem mid_put (p : Nat → Nat) (j x y k : Nat) (i : Nat) : (if i = j then y else mid p j x k i) = mid p j y k i := by
  unfold mid
  by_cases h1 : i = j
  · subst h1
    rw [if_pos rfl, if_neg (by omega), if_pos rfl]
  · rw [if_neg h1]
    simp only [if_neg h1]

/-- The element is put into the hole. -/
theorem Inv.ins {I : Nat → Int} {m : Nat} {p : Nat → Nat} (h : Inv I (m + 1) p) {j : Nat} (hj : j ≤ m + 1)
    (hup : ∀ i, j ≤ i → i < m + 1 → I (m + 1) < I (p i)) (hlo : j = 0 ∨ I (p (j - 1)) ≤ I (m + 1)) : Inv I (m + 2) (mid p j (m + 1) (m + 1)) := by
  have lo : ∀ i, i < j → lt I (p i) (m + 1) := by
    intro i hi
    have h1 := h.le (i := i) (j := j - 1) (by omega) (by omega)
    have h2 := h.rng i (by omega)
    unfold lt; omega
  have up : ∀ i, j ≤ i → i < m + 1 → lt I (m + 1) (p i) := fun i h1 h2 => .inl (hup i h1 h2)
  have v1 : ∀ i, i < j → mid p j (m + 1) (m + 1) i = p i := fun i hi => by unfold mid; rw [if_pos hi]
  have v2 : mid p j (m + 1) (m + 1) j = m + 1 := by unfold mid; rw [if_neg (by omega), if_pos rfl]
  have v3 : ∀ i, j < i → i ≤ m + 1 → mid p j (m + 1) (m + 1) i = p (i - 1) := fun i h1 h2 => by unfold mid; rw [if_neg (by omega), if_neg (by omega), if_pos h2]
  refine ⟨fun i hi => ?_, fun i hi => ?_, fun a b hab hb => ?_, fun q hq => ?_⟩
  · unfold mid; rw [if_neg (by omega), if_neg (by omega), if_neg (by omega)]; exact h.fix i (by omega)
  · by_cases h1 : i < j
    · rw [v1 i h1]; have := h.rng i (by omega); omega
    · by_cases h2 : i = j
      · subst h2; rw [v2]; omega
      · rw [v3 i (by omega) (by omega)]; have := h.rng (i - 1) (by omega); omega
  · by_cases h1 : b < j
    · rw [v1 b h1, v1 a (by omega)]; exact h.srt a b hab (by omega)
    · by_cases h2 : b = j
      · subst h2; rw [v2, v1 a hab]; exact lo a hab
      · rw [v3 b (by omega) (by omega)]
        by_cases h3 : a < j
        · rw [v1 a h3]; exact h.srt a (b - 1) (by omega) (by omega)
        · by_cases h4 : a = j
          · subst h4; rw [v2]; exact up (b - 1) (by omega) (by omega)
          · rw [v3 a (by omega) (by omega)]; exact h.srt (a - 1) (b - 1) (by omega) (by omega)
  · by_cases e : q = m + 1
    · exact ⟨j, by omega, by rw [v2, e]⟩
    · obtain ⟨i, hi, e2⟩ := h.sur q (by omega)
      by_cases h1 : i < j
      · exact ⟨i, by omega, by rw [v1 i h1]; exact e2⟩
      · exact ⟨i + 1, by omega, by rw [v3 (i + 1) (by omega) (by omega)]; simpa using e2⟩

/-- How many of the first j numbers come before k. -/
def rank (I : Nat → Int) (k : Nat) : Nat → Nat
  | 0 => 0
  | j + 1 => rank I k j + (if I j < I k ∨ (I j = I k ∧ j < k) then 1 else 0)
theorem rank_le (I : Nat → Int) (k j : Nat) : rank I k j ≤ j := by
  induction j with
  | zero => exact Nat.le_refl _
  | succ j ih => unfold rank; split <;> omega

/-- Counting through a list. -/
theorem rank_count (I : Nat → Int) (k : Nat) (P : Nat → Bool) (hP : ∀ j, P j = true ↔ lt I j k) (n : Nat) : rank I k n = (List.range n).countP P := by
  induction n with
  | zero => rfl
  | succ n ih =>
    rw [List.range_succ, List.countP_append, ← ih, rank]
    by_cases h : lt I n k
    · rw [if_pos (by exact h), List.countP_cons_of_pos ((hP n).2 h)]; rfl
    · rw [if_neg (by exact h), List.countP_cons_of_neg (fun q => h ((hP n).1 q))]; rfl

theorem Inv.perm {I : Nat → Int} {n : Nat} {p : Nat → Nat} (h : Inv I n p) : ((List.range n).map p).Perm (List.range n) := by
  have hnd : ((List.range n).map p).Nodup := by
    unfold List.Nodup
    rw [List.pairwise_map]
    refine (List.pairwise_lt_range (n := n)).imp_of_mem ?_
    intro a b ha hb hab e
    have := h.srt a b hab (List.mem_range.1 hb)
    rw [e] at this
    exact lt_irrefl this
  refine (List.perm_ext_iff_of_nodup hnd List.nodup_range).2 fun a => ?_
  rw [List.mem_map, List.mem_range]
  constructor
  · rintro ⟨j, hj, rfl⟩
    exact h.rng j (List.mem_range.1 hj)
  · intro ha
    obtain ⟨j, hj, e⟩ := h.sur a ha
    exact ⟨j, List.mem_range.2 hj, e⟩

theorem count_below (n m : Nat) (h : m ≤ n) : (List.range n).countP (fun i => decide (i < m)) = m := by
  induction n generalizing m with
  | zero => have : m = 0 := by omega
            subst this; rfl
  | succ n ih =>
    rw [List.range_succ, List.countP_append]
    by_cases e : m = n + 1
    · subst e
      have e1 : (List.range n).countP (fun i => decide (i < n + 1)) = (List.range n).countP (fun i => decide (i < n)) := by
        refine List.countP_congr fun x hx => ?_
        have := List.mem_range.1 hx
        simp; omega
      rw [e1, ih n (Nat.le_refl _), List.countP_cons_of_pos (by simp)]; rfl
    · rw [ih m (by omega), List.countP_cons_of_neg (by simp; omega)]; rfl

/-- THE LAW: the element of number k lies, behind the sort, at its rank. -/
theorem Inv.at_rank {I : Nat → Int} {n : Nat} {p : Nat → Nat} (h : Inv I n p) {k : Nat} (hk : k < n) : rank I k n < n ∧ p (rank I k n) = k := by
  obtain ⟨m, hm, e⟩ := h.sur k hk
  let P : Nat → Bool := fun j => decide (I j < I k ∨ (I j = I k ∧ j < k))
  have hP : ∀ j, P j = true ↔ lt I j k := fun j => by simp [P, lt]
  have h1 : rank I k n = (List.range n).countP P := rank_count I k P hP n
  have h2 : (List.range n).countP P = ((List.range n).map p).countP P := (h.perm.countP_eq P).symm
  have h3 : ((List.range n).map p).countP P = (List.range n).countP (fun i => decide (i < m)) := by
    rw [List.countP_map]
    refine List.countP_congr fun x hx => ?_
    have hx' := List.mem_range.1 hx
    show P (p x) = true ↔ decide (x < m) = true
    rw [hP]
    constructor
    · intro hl
      rw [decide_eq_true_eq]
      by_cases c : x < m
      · exact c
      · exfalso
        by_cases c2 : x = m
        · subst c2; rw [e] at hl; exact lt_irrefl hl
        · have := h.srt m x (by omega) hx'
          rw [e] at this
          exact lt_irrefl (lt_trans hl this)
    · intro hl
      have := h.srt x m (of_decide_eq_true hl) hm
      rwa [e] at this
  have h4 : rank I k n = m := by rw [h1, h2, h3, count_below n m (by omega)]
  rw [h4]
  exact ⟨hm, e⟩
end Go.Proofs.Qxb6600066a.perm
