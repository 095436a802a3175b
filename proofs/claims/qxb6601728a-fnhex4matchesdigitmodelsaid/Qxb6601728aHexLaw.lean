/- Four hex digits, as plain functions: no Go in sight. -/
namespace Go.Proofs.Qxb6601728a.hex

/-- The value of a hex digit, or -1. -/
def hx (c : Int) : Int := if 48 ≤ c ∧ c ≤ 57 then c - 48 else if 97 ≤ c ∧ c ≤ 102 then c - 87 else if 65 ≤ c ∧ c ≤ 70 then c - 55 else -1
theorem hx_bd (c : Int) : -1 ≤ hx c ∧ hx c ≤ 15 := by unfold hx; split <;> (try split) <;> (try split) <;> omega

/-- The first k digits read. -/
def rd (x : Nat → Int) : Nat → Int
  | 0 => 0
  | k + 1 => rd x k * 16 + hx (x k)
/-- Are the first k bytes digits? -/
def good (x : Nat → Int) (k : Nat) : Prop := ∀ j, j < k → 0 ≤ hx (x j)
def val (x : Nat → Int) : Int := if 0 ≤ hx (x 0) ∧ 0 ≤ hx (x 1) ∧ 0 ≤ hx (x 2) ∧ 0 ≤ hx (x 3) then rd x 4 else -1

theorem rd_bd (x : Nat → Int) (k : Nat) (h : good x k) : 0 ≤ rd x k ∧ rd x k < 16 ^ k := by
  induction k with
  | zero => unfold rd; omega
  | succ k ih =>
    have h1 := ih (fun j hj => h j (by omega))
    have h2 := hx_bd (x k)
    have h3 := h k (by omega)
    unfold rd
    rw [Int.pow_succ]
    omega
theorem rd_small (x : Nat → Int) (k : Nat) (hk : k ≤ 4) (h : good x k) : 0 ≤ rd x k ∧ rd x k < 65536 := by
  have h1 := rd_bd x k h
  have h2 : (16 : Int) ^ k ≤ 16 ^ 4 := by
    match k, hk with
    | 0, _ => decide
    | 1, _ => decide
    | 2, _ => decide
    | 3, _ => decide
    | 4, _ => decide
  have h3 : (16 : Int) ^ 4 = 65536 := by decide
  omega
theorem val_good (x : Nat → Int) (h : good x 4) : val x = rd x 4 := by
  unfold val
  rw [if_pos ⟨h 0 (by omega), h 1 (by omega), h 2 (by omega), h 3 (by omega)⟩]
theorem val_bad (x : Nat → Int) (k : Nat) (hk : k < 4) (h : hx (x k) = -1) : val x = -1 := by
  unfold val
  rw [if_neg]
  match k, hk with
  | 0, _ => omega
  | 1, _ => omega
  | 2, _ => omega
  | 3, _ => omega
theorem good_succ {x : Nat → Int} {k : Nat} (h : good x k) (hk : 0 ≤ hx (x k)) : good x (k + 1) := by
  intro j hj
  by_cases e : j = k
  · subst e; exact hk
  · exact h j (by omega)
end Go.Proofs.Qxb6601728a.hex
