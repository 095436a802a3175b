/- The table-driven automaton of the JSON number grammar as plain functions, and the plain law: it answers what checkNumber answers. -/
import Derived.Test.Qxb6600066aNumLaw
namespace Go.Proofs.Qxb6600066a.num

/-- numStep, as a table. -/
def nxt (st : Nat) (c : Int) : Nat :=
  match st with
  | 1 => if c = 45 then 2 else if c = 48 then 3 else if dig c = true then 4 else 0
  | 2 => if c = 48 then 3 else if dig c = true then 4 else 0
  | 3 => if c = 46 then 5 else if c = 101 ∨ c = 69 then 7 else 0
  | 4 => if dig c = true then 4 else if c = 46 then 5 else if c = 101 ∨ c = 69 then 7 else 0
  | 5 => if dig c = true then 6 else 0
  | 6 => if dig c = true then 6 else if c = 101 ∨ c = 69 then 7 else 0
  | 7 => if c = 43 ∨ c = 45 then 8 else if dig c = true then 9 else 0
  | 8 => if dig c = true then 9 else 0
  | 9 => if dig c = true then 9 else 0
  | _ => 0
def okst (st : Nat) : Bool := st == 3 || st == 4 || st == 6 || st == 9
def fin (st p : Nat) : Int := if okst st = true then (p : Nat) else -1
def arun (f : Nat → Int) : Nat → Nat → Nat → Int
  | 0, st, p => fin st p
  | k + 1, st, p => if nxt st (f p) = 0 then fin st p else arun f k (nxt st (f p)) (p + 1)
/-- The automaton's answer from state st at p on. -/
def A (f : Nat → Int) (n st p : Nat) : Int := arun f (n - p) st p

theorem step1 (c : Int) : nxt 1 c = if c = 45 then 2 else if c = 48 then 3 else if dig c = true then 4 else 0 := rfl
theorem step2 (c : Int) : nxt 2 c = if c = 48 then 3 else if dig c = true then 4 else 0 := rfl
theorem step3 (c : Int) : nxt 3 c = if c = 46 then 5 else if c = 101 ∨ c = 69 then 7 else 0 := rfl
theorem step4 (c : Int) : nxt 4 c = if dig c = true then 4 else if c = 46 then 5 else if c = 101 ∨ c = 69 then 7 else 0 := rfl
theorem step5 (c : Int) : nxt 5 c = if dig c = true then 6 else 0 := rfl
theorem step6 (c : Int) : nxt 6 c = if dig c = true then 6 else if c = 101 ∨ c = 69 then 7 else 0 := rfl
theorem step7 (c : Int) : nxt 7 c = if c = 43 ∨ c = 45 then 8 else if dig c = true then 9 else 0 := rfl
theorem step8 (c : Int) : nxt 8 c = if dig c = true then 9 else 0 := rfl
theorem step9 (c : Int) : nxt 9 c = if dig c = true then 9 else 0 := rfl
theorem nxt_le (st : Nat) (c : Int) : nxt st c ≤ 9 := by
  unfold nxt
  split <;> (repeat' split) <;> omega

section
variable {f : Nat → Int} {n : Nat}

theorem A_end (st p : Nat) (h : n ≤ p) : A f n st p = fin st p := by
  unfold A; rw [show n - p = 0 by omega]; rfl
theorem A_stop (st p : Nat) (h : p < n) (hs : nxt st (f p) = 0) : A f n st p = fin st p := by
  unfold A; rw [show n - p = (n - (p + 1)) + 1 by omega, arun, if_pos hs]
theorem A_go (st p s : Nat) (h : p < n) (hs : nxt st (f p) = s) (h0 : s ≠ 0) : A f n st p = A f n s (p + 1) := by
  unfold A; rw [show n - p = (n - (p + 1)) + 1 by omega, arun, if_neg (by omega), hs]

theorem fin9 (p : Nat) : fin 9 p = (p : Nat) := rfl
theorem fin8 (p : Nat) : fin 8 p = -1 := rfl
theorem fin7 (p : Nat) : fin 7 p = -1 := rfl
theorem fin6 (p : Nat) : fin 6 p = (p : Nat) := rfl
theorem fin5 (p : Nat) : fin 5 p = -1 := rfl
theorem fin4 (p : Nat) : fin 4 p = (p : Nat) := rfl
theorem fin3 (p : Nat) : fin 3 p = (p : Nat) := rfl
theorem fin2 (p : Nat) : fin 2 p = -1 := rfl
theorem fin1 (p : Nat) : fin 1 p = -1 := rfl

theorem dig_iff (c : Int) : dig c = true ↔ 48 ≤ c ∧ c ≤ 57 := by simp [dig]

/-- An induction over what is left. -/
theorem down {P : Nat → Prop} (h1 : P n) (h2 : ∀ p, p < n → P (p + 1) → P p) (p : Nat) (hp : p ≤ n) : P p := by
  have key : ∀ d p, n - p = d → p ≤ n → P p := by
    intro d
    induction d with
    | zero => intro p hd hp; have e : p = n := by omega
              subst e; exact h1
    | succ d ih => intro p hd hp; exact h2 p (by omega) (ih (p + 1) (by omega) (by omega))
  exact key _ p rfl hp

theorem A9 (p : Nat) (hp : p ≤ n) : A f n 9 p = (skip f n p : Nat) := by
  refine down (n := n) (P := fun p => A f n 9 p = (skip f n p : Nat)) ?_ ?_ p hp
  · rw [A_end 9 n (Nat.le_refl _), skip_end f n n (Nat.le_refl _), fin9]
  · intro p hp ih
    by_cases c : dig (f p) = true
    · rw [A_go 9 p 9 hp (by rw [step9, if_pos c]) (by omega), ih, skip_yes f n p hp c]
    · rw [A_stop 9 p hp (by rw [step9, if_neg c]), skip_no f n p hp (by simpa using c), fin9]
theorem A8 (p : Nat) (hp : p ≤ n) : A f n 8 p = if skip f n p = p then -1 else ((skip f n p : Nat) : Int) := by
  by_cases h : p < n
  · by_cases c : dig (f p) = true
    · have hg := skip_gt f n p h c
      rw [A_go 8 p 9 h (by rw [step8, if_pos c]) (by omega), A9 (p + 1) (by omega), if_neg (by omega), skip_yes f n p h c]
    · rw [A_stop 8 p h (by rw [step8, if_neg c]), if_pos (skip_no f n p h (by simpa using c)), fin8]
  · rw [A_end 8 p (by omega), if_pos (skip_end f n p (by omega)), fin8]
theorem A7 (p : Nat) (hp : p ≤ n) : A f n 7 p = if skip f n (sg f n p) = sg f n p then -1 else ((skip f n (sg f n p) : Nat) : Int) := by
  by_cases h : p < n
  · by_cases c : f p = 43 ∨ f p = 45
    · have e : sg f n p = p + 1 := by unfold sg; rw [if_pos ⟨h, c⟩]
      rw [A_go 7 p 8 h (by rw [step7, if_pos c]) (by omega), A8 (p + 1) (by omega), e]
    · have e : sg f n p = p := by unfold sg; rw [if_neg (fun q => c q.2)]
      rw [e]
      by_cases c2 : dig (f p) = true
      · have hg := skip_gt f n p h c2
        rw [A_go 7 p 9 h (by rw [step7, if_neg c, if_pos c2]) (by omega), A9 (p + 1) (by omega), if_neg (by omega), skip_yes f n p h c2]
      · rw [A_stop 7 p h (by rw [step7, if_neg c, if_neg c2]), if_pos (skip_no f n p h (by simpa using c2)), fin7]
  · have e : sg f n p = p := by unfold sg; rw [if_neg (fun q => h q.1)]
    rw [A_end 7 p (by omega), e, if_pos (skip_end f n p (by omega)), fin7]

theorem e_not_dig {c : Int} (h : c = 101 ∨ c = 69) : ¬ dig c = true := by rw [dig_iff]; omega
theorem dot_not_dig {c : Int} (h : c = 46) : ¬ dig c = true := by rw [dig_iff]; omega

theorem st4_e (p : Nat) (h : p < n) (c : f p = 101 ∨ f p = 69) : st4 f n p = A f n 7 (p + 1) := by
  unfold st4; rw [if_pos ⟨h, c⟩, A7 (p + 1) (by omega)]
theorem st4_not (p : Nat) (h : ¬ (p < n ∧ (f p = 101 ∨ f p = 69))) : st4 f n p = (p : Nat) := by unfold st4; rw [if_neg h]

theorem A6 (p : Nat) (hp : p ≤ n) : A f n 6 p = st4 f n (skip f n p) := by
  refine down (n := n) (P := fun p => A f n 6 p = st4 f n (skip f n p)) ?_ ?_ p hp
  · rw [A_end 6 n (Nat.le_refl _), skip_end f n n (Nat.le_refl _), st4_not n (by omega), fin6]
  · intro p hp ih
    by_cases c : dig (f p) = true
    · rw [A_go 6 p 6 hp (by rw [step6, if_pos c]) (by omega), ih, skip_yes f n p hp c]
    · rw [skip_no f n p hp (by simpa using c)]
      by_cases c2 : f p = 101 ∨ f p = 69
      · rw [A_go 6 p 7 hp (by rw [step6, if_neg c, if_pos c2]) (by omega), st4_e p hp c2]
      · rw [A_stop 6 p hp (by rw [step6, if_neg c, if_neg c2]), st4_not p (fun q => c2 q.2), fin6]

theorem last_dig (p : Nat) (h : p < skip f n p) : dig (f (skip f n p - 1)) = true := by
  have key : ∀ k p, p < run f k p → dig (f (run f k p - 1)) = true := by
    intro k
    induction k with
    | zero => intro p h; unfold run at h; omega
    | succ k ih =>
      intro p h
      rw [run] at h ⊢
      by_cases c : dig (f p) = true
      · rw [if_pos c] at h ⊢
        have hg := (run_ge f k (p + 1)).1
        by_cases e : run f k (p + 1) = p + 1
        · rw [e]; exact c
        · exact ih (p + 1) (by omega)
      · rw [if_neg c] at h; omega
  exact key _ p h

/-- Behind the dot at p. -/
theorem A5 (p : Nat) (hp : p < n) (hd : f p = 46) : A f n 5 (p + 1) = if f (skip f n (p + 1) - 1) = 46 then -1 else st4 f n (skip f n (p + 1)) := by
  by_cases h : p + 1 < n
  · by_cases c : dig (f (p + 1)) = true
    · have hg := skip_gt f n (p + 1) h c
      have hl := last_dig (p + 1) hg
      rw [A_go 5 (p + 1) 6 h (by rw [step5, if_pos c]) (by omega), A6 (p + 1 + 1) (by omega), ← skip_yes f n (p + 1) h c, if_neg (fun q => dot_not_dig q hl)]
    · rw [A_stop 5 (p + 1) h (by rw [step5, if_neg c]), skip_no f n (p + 1) h (by simpa using c), Nat.add_sub_cancel, if_pos hd, fin5]
  · rw [A_end 5 (p + 1) (by omega), skip_end f n (p + 1) (by omega), Nat.add_sub_cancel, if_pos hd, fin5]

theorem st3_dot (p : Nat) (h : p < n) (c : f p = 46) : st3 f n p = A f n 5 (p + 1) := by
  unfold st3; rw [if_pos ⟨h, c⟩, A5 p h c]
theorem st3_not (p : Nat) (h : ¬ (p < n ∧ f p = 46)) : st3 f n p = st4 f n p := by unfold st3; rw [if_neg h]

theorem A3 (p : Nat) (hp : p ≤ n) : A f n 3 p = st3 f n p := by
  by_cases h : p < n
  · by_cases c : f p = 46
    · rw [A_go 3 p 5 h (by rw [step3, if_pos c]) (by omega), st3_dot p h c]
    · rw [st3_not p (fun q => c q.2)]
      by_cases c2 : f p = 101 ∨ f p = 69
      · rw [A_go 3 p 7 h (by rw [step3, if_neg c, if_pos c2]) (by omega), st4_e p h c2]
      · rw [A_stop 3 p h (by rw [step3, if_neg c, if_neg c2]), st4_not p (fun q => c2 q.2), fin3]
  · rw [A_end 3 p (by omega), st3_not p (fun q => h q.1), st4_not p (fun q => h q.1), fin3]

theorem A4 (p : Nat) (hp : p ≤ n) : A f n 4 p = st3 f n (skip f n p) := by
  refine down (n := n) (P := fun p => A f n 4 p = st3 f n (skip f n p)) ?_ ?_ p hp
  · rw [A_end 4 n (Nat.le_refl _), skip_end f n n (Nat.le_refl _), st3_not n (by omega), st4_not n (by omega), fin4]
  · intro p hp ih
    by_cases c : dig (f p) = true
    · rw [A_go 4 p 4 hp (by rw [step4, if_pos c]) (by omega), ih, skip_yes f n p hp c]
    · rw [skip_no f n p hp (by simpa using c)]
      by_cases c1 : f p = 46
      · rw [A_go 4 p 5 hp (by rw [step4, if_neg c, if_pos c1]) (by omega), st3_dot p hp c1]
      · rw [st3_not p (fun q => c1 q.2)]
        by_cases c2 : f p = 101 ∨ f p = 69
        · rw [A_go 4 p 7 hp (by rw [step4, if_neg c, if_neg c1, if_pos c2]) (by omega), st4_e p hp c2]
        · rw [A_stop 4 p hp (by rw [step4, if_neg c, if_neg c1, if_neg c2]), st4_not p (fun q => c2 q.2), fin4]

theorem A2 (p : Nat) (hp : p ≤ n) : A f n 2 p = st2 f n p := by
  unfold st2
  by_cases h : p = n
  · rw [if_pos h, A_end 2 p (by omega), fin2]
  · have hl : p < n := by omega
    rw [if_neg h]
    by_cases c1 : f p = 48
    · rw [if_pos c1, A_go 2 p 3 hl (by rw [step2, if_pos c1]) (by omega), A3 (p + 1) (by omega)]
    · rw [if_neg c1]
      by_cases c : dig (f p) = true
      · rw [if_pos c, A_go 2 p 4 hl (by rw [step2, if_neg c1, if_pos c]) (by omega), A4 (p + 1) (by omega), skip_yes f n p hl c]
      · rw [if_neg c, A_stop 2 p hl (by rw [step2, if_neg c1, if_neg c]), fin2]

/-- THE LAW: checkNumber answers what the automaton answers. -/
theorem chk_auto (i : Nat) (hi : i < n) : A f n 1 i = chk f n i := by
  unfold chk mn
  by_cases c0 : f i = 45
  · rw [if_pos c0, A_go 1 i 2 hi (by rw [step1, if_pos c0]) (by omega), A2 (i + 1) (by omega)]
  · rw [if_neg c0]
    unfold st2
    rw [if_neg (by omega)]
    by_cases c1 : f i = 48
    · rw [if_pos c1, A_go 1 i 3 hi (by rw [step1, if_neg c0, if_pos c1]) (by omega), A3 (i + 1) (by omega)]
    · rw [if_neg c1]
      by_cases c : dig (f i) = true
      · rw [if_pos c, A_go 1 i 4 hi (by rw [step1, if_neg c0, if_neg c1, if_pos c]) (by omega), A4 (i + 1) (by omega), skip_yes f n i hi c]
      · rw [if_neg c, A_stop 1 i hi (by rw [step1, if_neg c0, if_neg c1, if_neg c]), fin1]
end
end Go.Proofs.Qxb6600066a.num
