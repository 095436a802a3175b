/- checkNumber as plain functions of the bytes f 0, f 1, .., f (n - 1): no Go in sight. -/
namespace Go.Proofs.Qxb6600066a.num

def dig (c : Int) : Bool := decide (48 ≤ c) && decide (c ≤ 57)

/-- Past the digits from i on, at most k of them. -/
def run (f : Nat → Int) : Nat → Nat → Nat
  | 0, i => i
  | k + 1, i => if dig (f i) = true then run f k (i + 1) else i
def skip (f : Nat → Int) (n i : Nat) : Nat := run f (n - i) i

theorem run_ge (f : Nat → Int) (k i : Nat) : i ≤ run f k i ∧ run f k i ≤ i + k := by
  induction k generalizing i with
  | zero => exact ⟨Nat.le_refl _, Nat.le_refl _⟩
  | succ k ih =>
    unfold run
    split
    · have := ih (i + 1); omega
    · omega
theorem skip_ge (f : Nat → Int) (n i : Nat) : i ≤ skip f n i := (run_ge f _ i).1
theorem skip_le (f : Nat → Int) (n i : Nat) (h : i ≤ n) : skip f n i ≤ n := by have := (run_ge f (n - i) i).2; unfold skip; omega
theorem skip_yes (f : Nat → Int) (n i : Nat) (h : i < n) (hd : dig (f i) = true) : skip f n i = skip f n (i + 1) := by
  unfold skip
  rw [show n - i = (n - (i + 1)) + 1 by omega, run, if_pos hd]
theorem skip_no (f : Nat → Int) (n i : Nat) (h : i < n) (hd : dig (f i) = false) : skip f n i = i := by
  unfold skip
  rw [show n - i = (n - (i + 1)) + 1 by omega, run, if_neg (by rw [hd]; decide)]
theorem skip_end (f : Nat → Int) (n i : Nat) (h : n ≤ i) : skip f n i = i := by
  unfold skip
  rw [show n - i = 0 by omega, run]

/-- The exponent. -/
def sg (f : Nat → Int) (n i : Nat) : Nat := if i < n ∧ (f i = 43 ∨ f i = 45) then i + 1 else i
def st4 (f : Nat → Int) (n i : Nat) : Int :=
  if i < n ∧ (f i = 101 ∨ f i = 69) then (if skip f n (sg f n (i + 1)) = sg f n (i + 1) then -1 else (skip f n (sg f n (i + 1)) : Nat)) else (i : Nat)
/-- The fraction. -/
def st3 (f : Nat → Int) (n i : Nat) : Int :=
  if i < n ∧ f i = 46 then (if f (skip f n (i + 1) - 1) = 46 then -1 else st4 f n (skip f n (i + 1))) else st4 f n i
/-- The whole part. -/
def st2 (f : Nat → Int) (n i : Nat) : Int :=
  if i = n then -1 else if f i = 48 then st3 f n (i + 1) else if dig (f i) = true then st3 f n (skip f n i) else -1
/-- The minus. -/
def mn (f : Nat → Int) (i : Nat) : Nat := if f i = 45 then i + 1 else i
def chk (f : Nat → Int) (n i : Nat) : Int := st2 f n (mn f i)

theorem mn_le (f : Nat → Int) (i : Nat) : i ≤ mn f i ∧ mn f i ≤ i + 1 := by unfold mn; split <;> omega
theorem sg_le (f : Nat → Int) (n i : Nat) (h : i ≤ n) : i ≤ sg f n i ∧ sg f n i ≤ n := by unfold sg; split <;> omega
end Go.Proofs.Qxb6600066a.num
