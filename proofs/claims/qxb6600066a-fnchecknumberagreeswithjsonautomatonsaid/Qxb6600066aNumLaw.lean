/- Plain laws of checkNumber as a function of bytes: bounds; a shift; a cut behind the number. -/
import Derived.Test.Qxb6600066aNum
namespace Go.Proofs.Qxb6600066a.num

/-! ### Bounds -/
theorem st4_bd (f : Nat → Int) (n i : Nat) (h : i ≤ n) : st4 f n i = -1 ∨ ((i : Int) ≤ st4 f n i ∧ st4 f n i ≤ n) := by
  unfold st4
  by_cases c : i < n ∧ (f i = 101 ∨ f i = 69)
  · rw [if_pos c]
    have h1 := sg_le f n (i + 1) (by omega)
    have h2 := skip_ge f n (sg f n (i + 1))
    have h3 := skip_le f n (sg f n (i + 1)) h1.2
    split
    · exact .inl rfl
    · right; omega
  · rw [if_neg c]; right; omega
theorem st3_bd (f : Nat → Int) (n i : Nat) (h : i ≤ n) : st3 f n i = -1 ∨ ((i : Int) ≤ st3 f n i ∧ st3 f n i ≤ n) := by
  unfold st3
  by_cases c : i < n ∧ f i = 46
  · rw [if_pos c]
    have h2 := skip_ge f n (i + 1)
    have h3 := skip_le f n (i + 1) (by omega)
    split
    · exact .inl rfl
    · have := st4_bd f n _ h3; omega
  · rw [if_neg c]; exact st4_bd f n i h
theorem skip_gt (f : Nat → Int) (n i : Nat) (h : i < n) (hd : dig (f i) = true) : i < skip f n i := by
  rw [skip_yes f n i h hd]; have := skip_ge f n (i + 1); omega
theorem st2_bd (f : Nat → Int) (n i : Nat) (h : i ≤ n) : st2 f n i = -1 ∨ ((i : Int) < st2 f n i ∧ st2 f n i ≤ n) := by
  unfold st2
  by_cases c : i = n
  · rw [if_pos c]; exact .inl rfl
  · rw [if_neg c]
    by_cases c1 : f i = 48
    · rw [if_pos c1]; have := st3_bd f n (i + 1) (by omega); omega
    · rw [if_neg c1]
      by_cases c2 : dig (f i) = true
      · rw [if_pos c2]
        have h1 := skip_gt f n i (by omega) c2
        have h2 := skip_le f n i h
        have := st3_bd f n _ h2
        omega
      · rw [if_neg c2]; exact .inl rfl
theorem chk_bd (f : Nat → Int) (n i : Nat) (h : i < n) : chk f n i = -1 ∨ ((i : Int) < chk f n i ∧ chk f n i ≤ n) := by
  have h1 := mn_le f i
  have h2 := st2_bd f n (mn f i) (by omega)
  unfold chk; omega

/-! ### A shift -/
def up (i : Nat) (r : Int) : Int := if r = -1 then -1 else r + i

section
variable {f f' : Nat → Int} {i n : Nat}

theorem run_up (hf : ∀ j, f' j = f (i + j)) (k j : Nat) : run f k (i + j) = i + run f' k j := by
  induction k generalizing j with
  | zero => rfl
  | succ k ih =>
    unfold run
    rw [hf j]
    by_cases h : dig (f (i + j)) = true
    · rw [if_pos h, if_pos h]; exact ih (j + 1)
    · rw [if_neg h, if_neg h]
theorem skip_up (hf : ∀ j, f' j = f (i + j)) (j : Nat) : skip f n (i + j) = i + skip f' (n - i) j := by
  unfold skip
  rw [show n - (i + j) = n - i - j by omega]
  exact run_up hf _ j
theorem sg_up (hf : ∀ j, f' j = f (i + j)) (j : Nat) : sg f n (i + j) = i + sg f' (n - i) j := by
  unfold sg
  rw [hf j]
  by_cases h : i + j < n ∧ (f (i + j) = 43 ∨ f (i + j) = 45)
  · rw [if_pos h, if_pos (by omega)]; rfl
  · rw [if_neg h, if_neg (by omega)]
theorem st4_up (hf : ∀ j, f' j = f (i + j)) (j : Nat) : st4 f n (i + j) = up i (st4 f' (n - i) j) := by
  unfold st4
  rw [hf j]
  by_cases h : i + j < n ∧ (f (i + j) = 101 ∨ f (i + j) = 69)
  · have h' : j < n - i ∧ (f (i + j) = 101 ∨ f (i + j) = 69) := ⟨by omega, h.2⟩
    rw [if_pos h, if_pos h', show i + j + 1 = i + (j + 1) from rfl, sg_up hf (j + 1), skip_up hf]
    generalize skip f' (n - i) (sg f' (n - i) (j + 1)) = m
    generalize sg f' (n - i) (j + 1) = t
    by_cases e : m = t
    · rw [if_pos (by omega), if_pos e]; rfl
    · rw [if_neg (by omega), if_neg e]; unfold up; rw [if_neg (by omega)]; omega
  · have h' : ¬ (j < n - i ∧ (f (i + j) = 101 ∨ f (i + j) = 69)) := fun q => h ⟨by omega, q.2⟩
    rw [if_neg h, if_neg h']; unfold up; rw [if_neg (by omega)]; omega
theorem st3_up (hf : ∀ j, f' j = f (i + j)) (j : Nat) : st3 f n (i + j) = up i (st3 f' (n - i) j) := by
  unfold st3
  rw [hf j]
  by_cases h : i + j < n ∧ f (i + j) = 46
  · have hg := skip_ge f' (n - i) (j + 1)
    have h' : j < n - i ∧ f (i + j) = 46 := ⟨by omega, h.2⟩
    rw [if_pos h, if_pos h', show i + j + 1 = i + (j + 1) from rfl, skip_up hf]
    generalize skip f' (n - i) (j + 1) = m at *
    have e : f (i + m - 1) = f' (m - 1) := by rw [hf, show i + (m - 1) = i + m - 1 by omega]
    rw [e]
    by_cases e2 : f' (m - 1) = 46
    · rw [if_pos e2, if_pos e2]; rfl
    · rw [if_neg e2, if_neg e2]; exact st4_up hf m
  · have h' : ¬ (j < n - i ∧ f (i + j) = 46) := fun q => h ⟨by omega, q.2⟩
    rw [if_neg h, if_neg h']; exact st4_up hf j
theorem st2_up (hf : ∀ j, f' j = f (i + j)) (hi : i ≤ n) (j : Nat) : st2 f n (i + j) = up i (st2 f' (n - i) j) := by
  unfold st2
  rw [hf j]
  by_cases h : i + j = n
  · have h' : j = n - i := by omega
    rw [if_pos h, if_pos h']; rfl
  · have h' : ¬ j = n - i := by omega
    rw [if_neg h, if_neg h']
    by_cases h1 : f (i + j) = 48
    · rw [if_pos h1, if_pos h1]; exact st3_up hf (j + 1)
    · rw [if_neg h1, if_neg h1]
      by_cases h2 : dig (f (i + j)) = true
      · rw [if_pos h2, if_pos h2, skip_up hf]; exact st3_up hf _
      · rw [if_neg h2, if_neg h2]; rfl
/-- THE LAW: what precedes i does not matter. -/
theorem chk_up (hf : ∀ j, f' j = f (i + j)) (hi : i ≤ n) : chk f n i = up i (chk f' (n - i) 0) := by
  have e : mn f i = i + mn f' 0 := by
    have e0 : f' 0 = f i := hf 0
    unfold mn
    rw [e0]
    split <;> rfl
  unfold chk
  rw [e]
  exact st2_up hf hi _
end

/-! ### A cut behind the number -/
section
variable {f : Nat → Int} {n r : Nat}

theorem skip_not (j : Nat) (h : skip f n j < n) : dig (f (skip f n j)) = false := by
  have key : ∀ k j, run f k j < j + k → dig (f (run f k j)) = false := by
    intro k
    induction k with
    | zero => intro j h; unfold run at h; omega
    | succ k ih =>
      intro j h
      rw [run] at h ⊢
      by_cases c : dig (f j) = true
      · rw [if_pos c] at h ⊢; exact ih (j + 1) (by omega)
      · rw [if_neg c]; simpa using c
  unfold skip at h ⊢
  by_cases c : j ≤ n
  · exact key (n - j) j (by omega)
  · exfalso; have := (run_ge f (n - j) j).1; omega
theorem skip_cut (j : Nat) (h1 : skip f n j ≤ r) (h2 : r ≤ n) (hj : j ≤ n) : skip f r j = skip f n j := by
  have key : ∀ d j, n - j = d → j ≤ n → skip f n j ≤ r → skip f r j = skip f n j := by
    intro d
    induction d with
    | zero =>
      intro j hd hj h
      have hn : j = n := by omega
      subst hn
      rw [skip_end f j j (Nat.le_refl _)] at h ⊢
      exact skip_end f r j (by omega)
    | succ d ih =>
      intro j hd hj h
      by_cases c : dig (f j) = true
      · rw [skip_yes f n j (by omega) c] at h ⊢
        have := skip_ge f n (j + 1)
        rw [skip_yes f r j (by omega) c]
        exact ih (j + 1) (by omega) (by omega) h
      · have c' : dig (f j) = false := by simpa using c
        rw [skip_no f n j (by omega) c'] at h ⊢
        by_cases hr : j < r
        · exact skip_no f r j hr c'
        · exact skip_end f r j (by omega)
  exact key (n - j) j rfl hj h1

theorem st4_cut (j : Nat) (hj : j ≤ n) (h : st4 f n j = (r : Int)) : st4 f r j = (r : Int) ∧ j ≤ r ∧ r ≤ n := by
  unfold st4 at h
  by_cases c : j < n ∧ (f j = 101 ∨ f j = 69)
  · rw [if_pos c] at h
    have h1 := sg_le f n (j + 1) (by omega)
    have h2 := skip_ge f n (sg f n (j + 1))
    have h3 := skip_le f n (sg f n (j + 1)) h1.2
    by_cases e : skip f n (sg f n (j + 1)) = sg f n (j + 1)
    · rw [if_pos e] at h; omega
    · rw [if_neg e] at h
      have hr : skip f n (sg f n (j + 1)) = r := by omega
      have es : sg f r (j + 1) = sg f n (j + 1) := by
        unfold sg at *
        by_cases c2 : j + 1 < n ∧ (f (j + 1) = 43 ∨ f (j + 1) = 45)
        · rw [if_pos c2] at *
          rw [if_pos (by omega)]
        · rw [if_neg c2, if_neg (by omega)]
      refine ⟨?_, by omega, by omega⟩
      unfold st4
      rw [if_pos (by omega), es, skip_cut _ (by omega) (by omega) h1.2, if_neg e]
      exact h
  · rw [if_neg c] at h
    have hr : j = r := by omega
    subst hr
    refine ⟨?_, Nat.le_refl _, hj⟩
    unfold st4
    rw [if_neg (by omega)]
theorem st3_cut (j : Nat) (hj : j ≤ n) (h : st3 f n j = (r : Int)) : st3 f r j = (r : Int) ∧ j ≤ r ∧ r ≤ n := by
  unfold st3 at h
  by_cases c : j < n ∧ f j = 46
  · rw [if_pos c] at h
    have h2 := skip_ge f n (j + 1)
    have h3 := skip_le f n (j + 1) (by omega)
    by_cases e : f (skip f n (j + 1) - 1) = 46
    · rw [if_pos e] at h; omega
    · rw [if_neg e] at h
      obtain ⟨a, b, d⟩ := st4_cut _ h3 h
      refine ⟨?_, by omega, d⟩
      unfold st3
      rw [if_pos (by omega), skip_cut _ b d (by omega), if_neg e]
      exact a
  · rw [if_neg c] at h
    obtain ⟨a, b, d⟩ := st4_cut _ hj h
    refine ⟨?_, b, d⟩
    unfold st3
    rw [if_neg (by omega)]
    exact a
theorem st2_cut (j : Nat) (hj : j ≤ n) (h : st2 f n j = (r : Int)) : st2 f r j = (r : Int) ∧ j < r ∧ r ≤ n := by
  unfold st2 at h
  by_cases c : j = n
  · rw [if_pos c] at h; omega
  · rw [if_neg c] at h
    by_cases c1 : f j = 48
    · rw [if_pos c1] at h
      obtain ⟨a, b, d⟩ := st3_cut _ (by omega) h
      refine ⟨?_, by omega, d⟩
      unfold st2
      rw [if_neg (by omega), if_pos c1]
      exact a
    · rw [if_neg c1] at h
      by_cases c2 : dig (f j) = true
      · rw [if_pos c2] at h
        have h1 := skip_gt f n j (by omega) c2
        have h2 := skip_le f n j hj
        obtain ⟨a, b, d⟩ := st3_cut _ h2 h
        refine ⟨?_, by omega, d⟩
        unfold st2
        rw [if_neg (by omega), if_neg c1, if_pos c2, skip_cut _ b d hj]
        exact a
      · rw [if_neg c2] at h; omega
/-- THE LAW: the text cut behind the number reads as the same number. -/
theorem chk_cut (i : Nat) (hi : i < n) (h : chk f n i = (r : Int)) : chk f r i = (r : Int) ∧ i < r ∧ r ≤ n := by
  have h1 := mn_le f i
  obtain ⟨a, b, d⟩ := st2_cut (mn f i) (by omega) h
  exact ⟨a, by omega, d⟩
end
end Go.Proofs.Qxb6600066a.num
