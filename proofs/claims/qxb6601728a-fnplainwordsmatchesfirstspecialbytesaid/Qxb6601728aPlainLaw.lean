/- The plain law of plainWords' test: eight bytes at once. No Go in sight. A word is a list of bytes, the lowest first. -/
namespace Go.Proofs.Qxb6601728a.plain

/-- A plain byte. -/
def plB (x : Nat) : Bool := decide (32 ≤ x) && decide (x < 128) && x != 34 && x != 92

def num : List Nat → Nat
  | [] => 0
  | x :: l => x + 256 * num l
/-- The same byte n times. -/
def rep (c : Nat) : Nat → Nat
  | 0 => 0
  | n + 1 => c + 256 * rep c n

/-- The four terms, joined and masked; M: the modulus. -/
def term (W S O Q B H M : Nat) : Nat := (((W + M - S) % M ||| ((W ^^^ Q) + M - O) % M) ||| ((W ^^^ B) + M - O) % M ||| W) &&& H
def low (x : Nat) : Nat := (((x + 224) % 256 ||| ((x ^^^ 34) + 255) % 256) ||| ((x ^^^ 92) + 255) % 256 ||| x) &&& 128

theorem low_iff : ∀ x, x < 256 → (low x = 0 ↔ plB x = true) := by decide +kernel
theorem plain_bd : ∀ x, x < 256 → plB x = true → 32 ≤ x ∧ 1 ≤ x ^^^ 34 ∧ 1 ≤ x ^^^ 92 ∧ (x ^^^ 34) < 256 ∧ (x ^^^ 92) < 256 := by decide +kernel

theorem num_lt (l : List Nat) (h : ∀ x ∈ l, x < 256) : num l < 256 ^ l.length := by
  induction l with
  | nil => decide
  | cons x l ih =>
    have h1 := h x (by simp)
    have h2 := ih (fun y hy => h y (by simp [hy]))
    simp only [num, List.length_cons, Nat.pow_succ]
    omega
theorem rep_lt (c n : Nat) (h : c < 256) : rep c n < 256 ^ n := by
  induction n with
  | zero => simp [rep]
  | succ n ih => simp only [rep, Nat.pow_succ]; omega

theorem or_mod (a b : Nat) : (a ||| b) % 256 = a % 256 ||| b % 256 := Nat.or_mod_two_pow (n := 8)
theorem and_mod (a b : Nat) : (a &&& b) % 256 = a % 256 &&& b % 256 := Nat.and_mod_two_pow (n := 8)
theorem xor_mod (a b : Nat) : (a ^^^ b) % 256 = a % 256 ^^^ b % 256 := Nat.xor_mod_two_pow (n := 8)
theorem or_div (a b : Nat) : (a ||| b) / 256 = a / 256 ||| b / 256 := Nat.or_div_two_pow (n := 8)
theorem and_div (a b : Nat) : (a &&& b) / 256 = a / 256 &&& b / 256 := Nat.and_div_two_pow (n := 8)
theorem xor_div (a b : Nat) : (a ^^^ b) / 256 = a / 256 ^^^ b / 256 := Nat.xor_div_two_pow (n := 8)

/-- A number by its lowest byte and the rest, taken off modulo 256 M. -/
theorem sub_mod (x c W S M : Nat) (hc : c < 256) (hS : S < M) : ((x + 256 * W) + 256 * M - (c + 256 * S)) % (256 * M) % 256 = (x + (256 - c)) % 256 := by
  rw [Nat.mod_mul_right_mod]
  omega
theorem sub_div (x c W S M : Nat) (hx : x < 256) (hc : c ≤ x) (hS : S < M) : ((x + 256 * W) + 256 * M - (c + 256 * S)) % (256 * M) / 256 = (W + M - S) % M := by
  rw [Nat.mod_mul_right_div_self]
  congr 1
  omega

theorem xor_split (x c W C : Nat) (hx : x < 256) (hc : c < 256) : (x + 256 * W) ^^^ (c + 256 * C) = (x ^^^ c) + 256 * (W ^^^ C) := by
  have h1 := xor_mod (x + 256 * W) (c + 256 * C)
  have h2 := xor_div (x + 256 * W) (c + 256 * C)
  rw [show (x + 256 * W) % 256 = x by omega, show (c + 256 * C) % 256 = c by omega] at h1
  rw [show (x + 256 * W) / 256 = W by omega, show (c + 256 * C) / 256 = C by omega] at h2
  omega

theorem xor_lt (x c : Nat) (hx : x < 256) (hc : c < 256) : x ^^^ c < 256 := Nat.xor_lt_two_pow (n := 8) hx hc

theorem term_low (x : Nat) (W : Nat) (n : Nat) (hx : x < 256) :
    term (x + 256 * W) (rep 32 (n + 1)) (rep 1 (n + 1)) (rep 34 (n + 1)) (rep 92 (n + 1)) (rep 128 (n + 1)) (256 * 256 ^ n) % 256 = low x := by
  have s32 := rep_lt 32 n (by omega)
  have s1 := rep_lt 1 n (by omega)
  unfold term low
  simp only [rep]
  rw [xor_split x 34 W _ hx (by omega), xor_split x 92 W _ hx (by omega), and_mod, or_mod, or_mod, or_mod,
    sub_mod x 32 W _ _ (by omega) s32, sub_mod _ 1 _ _ _ (by omega) s1, sub_mod _ 1 _ _ _ (by omega) s1,
    show (x + 256 * W) % 256 = x by omega, show (128 + 256 * rep 128 n) % 256 = 128 by omega]

theorem term_high (x : Nat) (W : Nat) (n : Nat) (hx : x < 256) (hp : plB x = true) :
    term (x + 256 * W) (rep 32 (n + 1)) (rep 1 (n + 1)) (rep 34 (n + 1)) (rep 92 (n + 1)) (rep 128 (n + 1)) (256 * 256 ^ n) / 256 =
      term W (rep 32 n) (rep 1 n) (rep 34 n) (rep 92 n) (rep 128 n) (256 ^ n) := by
  have s32 := rep_lt 32 n (by omega)
  have s1 := rep_lt 1 n (by omega)
  obtain ⟨p1, p2, p3, p4, p5⟩ := plain_bd x hx hp
  unfold term
  simp only [rep]
  rw [xor_split x 34 W _ hx (by omega), xor_split x 92 W _ hx (by omega), and_div, or_div, or_div, or_div,
    sub_div x 32 W _ _ hx p1 s32, sub_div _ 1 _ _ _ p4 p2 s1, sub_div _ 1 _ _ _ p5 p3 s1,
    show (x + 256 * W) / 256 = W by omega, show (128 + 256 * rep 128 n) / 256 = rep 128 n by omega]

/-- THE LAW: the masked terms are 0 just where every byte is plain. -/
theorem term_iff (l : List Nat) (h : ∀ x ∈ l, x < 256) :
    (term (num l) (rep 32 l.length) (rep 1 l.length) (rep 34 l.length) (rep 92 l.length) (rep 128 l.length) (256 ^ l.length) = 0 ↔ ∀ x ∈ l, plB x = true) := by
  induction l with
  | nil => simp [term, num, rep]
  | cons x l ih =>
    have hx := h x (by simp)
    have ih' := ih (fun y hy => h y (by simp [hy]))
    simp only [num, List.length_cons]
    rw [show 256 ^ (l.length + 1) = 256 * 256 ^ l.length by rw [Nat.pow_succ, Nat.mul_comm]]
    have hl := term_low x (num l) l.length hx
    generalize hT : term (x + 256 * num l) (rep 32 (l.length + 1)) (rep 1 (l.length + 1)) (rep 34 (l.length + 1)) (rep 92 (l.length + 1)) (rep 128 (l.length + 1)) (256 * 256 ^ l.length) = T at *
    constructor
    · intro h0
      have hp : plB x = true := (low_iff x hx).1 (by omega)
      have hh := term_high x (num l) l.length hx hp
      rw [hT] at hh
      intro y hy
      rcases List.mem_cons.1 hy with rfl | hy
      · exact hp
      · exact ih'.1 (by rw [← hh, h0]) y hy
    · intro hall
      have hp := hall x (by simp)
      have hh := term_high x (num l) l.length hx hp
      rw [hT] at hh
      have h1 := ih'.2 (fun y hy => hall y (by simp [hy]))
      have h2 := (low_iff x hx).2 hp
      omega

/-! ### The walk through the text: f j is byte j, n the length -/

/-- Past the plain bytes from i on, at most k of them. -/
def run (f : Nat → Nat) : Nat → Nat → Nat
  | 0, i => i
  | k + 1, i => if plB (f i) = true then run f k (i + 1) else i
def stop (f : Nat → Nat) (n i : Nat) : Nat := run f (n - i) i

theorem run_bd (f : Nat → Nat) (k i : Nat) : i ≤ run f k i ∧ run f k i ≤ i + k := by
  induction k generalizing i with
  | zero => exact ⟨Nat.le_refl _, Nat.le_refl _⟩
  | succ k ih =>
    unfold run
    split
    · have := ih (i + 1); omega
    · omega
theorem stop_ge (f : Nat → Nat) (n i : Nat) : i ≤ stop f n i := (run_bd f _ i).1
theorem stop_yes (f : Nat → Nat) (n i : Nat) (h : i < n) (hd : plB (f i) = true) : stop f n i = stop f n (i + 1) := by
  unfold stop
  rw [show n - i = (n - (i + 1)) + 1 by omega, run, if_pos hd]
theorem stop_no (f : Nat → Nat) (n i : Nat) (h : i < n) (hd : plB (f i) = false) : stop f n i = i := by
  unfold stop
  rw [show n - i = (n - (i + 1)) + 1 by omega, run, if_neg (by rw [hd]; decide)]
theorem stop_end (f : Nat → Nat) (n i : Nat) (h : n ≤ i) : stop f n i = i := by
  unfold stop
  rw [show n - i = 0 by omega, run]
theorem stop_le (f : Nat → Nat) (n i : Nat) (h : i ≤ n) : stop f n i ≤ n := by have := (run_bd f (n - i) i).2; unfold stop; omega

/-- m plain bytes in a row are passed over. -/
theorem stop_many (f : Nat → Nat) (n i m : Nat) (h : i + m ≤ n) (hp : ∀ j, j < m → plB (f (i + j)) = true) : stop f n i = stop f n (i + m) := by
  induction m with
  | zero => rfl
  | succ m ih =>
    rw [ih (by omega) (fun j hj => hp j (by omega)), stop_yes f n (i + m) (by omega) (hp m (by omega))]
    rfl
/-- A byte that is not plain is not passed over. -/
theorem stop_before (f : Nat → Nat) (n i m : Nat) (h : i + m < n) (hp : plB (f (i + m)) = false) : stop f n i ≤ i + m := by
  induction m generalizing i with
  | zero => rw [stop_no f n i h hp]; omega
  | succ m ih =>
    by_cases c : plB (f i) = true
    · rw [stop_yes f n i (by omega) c]
      have := ih (i + 1) (by omega) (by rw [show i + 1 + m = i + (m + 1) by omega]; exact hp)
      omega
    · rw [stop_no f n i (by omega) (by simpa using c)]; omega

/-- Where plainWords stops: whole words alone. -/
def want (f : Nat → Nat) (n i : Nat) : Nat := i + (stop f n i - i) / 8 * 8

theorem want_word (f : Nat → Nat) (n i : Nat) (h : i + 8 ≤ n) (hp : ∀ j, j < 8 → plB (f (i + j)) = true) : want f n i = want f n (i + 8) := by
  have h1 := stop_many f n i 8 h hp
  have h2 := stop_ge f n (i + 8)
  unfold want
  rw [h1]
  omega
theorem want_bad (f : Nat → Nat) (n i m : Nat) (h : i + 8 ≤ n) (hm : m < 8) (hp : plB (f (i + m)) = false) : want f n i = i := by
  have h1 := stop_before f n i m (by omega) hp
  unfold want
  omega
theorem want_short (f : Nat → Nat) (n i : Nat) (h : n < i + 8) : want f n i = i := by
  unfold want
  by_cases c : i ≤ n
  · have := stop_le f n i c; omega
  · rw [stop_end f n i (by omega)]; omega
end Go.Proofs.Qxb6601728a.plain
