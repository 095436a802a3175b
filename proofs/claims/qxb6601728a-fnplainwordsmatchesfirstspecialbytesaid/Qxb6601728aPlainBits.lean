/- plainWords' word and test as the Go text writes them, brought to the plain law. -/
import Derived.Test.Qxb6601728aRows
import Derived.Test.Qxb6601728aPlainLaw
import Derived.WalkKit
import Derived.Laws.Bits64
import Derived.Laws.Bits64b
namespace Go.Proofs.Qxb6601728a.plain
open Go.RowKit

theorem wrap_nat (a : Nat) (h : a < 18446744073709551616) : IntKind.u64.wrap (a : Int) = (a : Int) := by
  rw [IntKind.wrap_u64]; omega

theorem or_add (P a i : Nat) (h : P < 2 ^ i) : P ||| a * 2 ^ i = P + a * 2 ^ i := by
  have := Nat.shiftLeft_add_eq_or_of_lt (b := P) (i := i) h a
  rw [Nat.shiftLeft_eq] at this
  rw [Nat.or_comm, ← this, Nat.add_comm]

theorem join (P a m : Nat) (i : Nat) (hm : m = 2 ^ i) (hP : P < m) (ha : a < 256) (hs : 256 * m ≤ 18446744073709551616) :
    bits .or .u64 (P : Int) (IntKind.u64.wrap (IntKind.u64.wrap (a : Int) * (m : Int))) = ((P + m * a : Nat) : Int) := by
  have h1 : a * m < 18446744073709551616 := Nat.lt_of_lt_of_le ((Nat.mul_lt_mul_right (by omega)).2 ha) hs
  rw [wrap_nat a (by omega), show (a : Int) * (m : Int) = ((a * m : Nat) : Int) by simp, wrap_nat _ h1, bits_or_u64_nat P (a * m) (by omega) h1]
  subst hm
  rw [or_add P a i hP, Nat.mul_comm]

/-- The word as the Go text builds it. -/
def wordI (x0 x1 x2 x3 x4 x5 x6 x7 : Int) : Int :=
  bits .or .u64 (bits .or .u64 (bits .or .u64 (bits .or .u64 (bits .or .u64 (bits .or .u64 (bits .or .u64 (IntKind.u64.wrap x0) (IntKind.u64.wrap (IntKind.u64.wrap x1 * 256)))
    (IntKind.u64.wrap (IntKind.u64.wrap x2 * 65536))) (IntKind.u64.wrap (IntKind.u64.wrap x3 * 16777216))) (IntKind.u64.wrap (IntKind.u64.wrap x4 * 4294967296)))
    (IntKind.u64.wrap (IntKind.u64.wrap x5 * 1099511627776))) (IntKind.u64.wrap (IntKind.u64.wrap x6 * 281474976710656))) (IntKind.u64.wrap (IntKind.u64.wrap x7 * 72057594037927936))

theorem wordI_eq (a0 a1 a2 a3 a4 a5 a6 a7 : Nat) (h0 : a0 < 256) (h1 : a1 < 256) (h2 : a2 < 256) (h3 : a3 < 256) (h4 : a4 < 256) (h5 : a5 < 256) (h6 : a6 < 256) (h7 : a7 < 256) :
    wordI a0 a1 a2 a3 a4 a5 a6 a7 = ((num [a0, a1, a2, a3, a4, a5, a6, a7] : Nat) : Int) := by
  unfold wordI
  have j1 := join a0 a1 256 8 (by decide) (by omega) h1 (by omega)
  have j2 := join (a0 + 256 * a1) a2 65536 16 (by decide) (by omega) h2 (by omega)
  have j3 := join (a0 + 256 * a1 + 65536 * a2) a3 16777216 24 (by decide) (by omega) h3 (by omega)
  have j4 := join (a0 + 256 * a1 + 65536 * a2 + 16777216 * a3) a4 4294967296 32 (by decide) (by omega) h4 (by omega)
  have j5 := join (a0 + 256 * a1 + 65536 * a2 + 16777216 * a3 + 4294967296 * a4) a5 1099511627776 40 (by decide) (by omega) h5 (by omega)
  have j6 := join (a0 + 256 * a1 + 65536 * a2 + 16777216 * a3 + 4294967296 * a4 + 1099511627776 * a5) a6 281474976710656 48 (by decide) (by omega) h6 (by omega)
  have j7 := join (a0 + 256 * a1 + 65536 * a2 + 16777216 * a3 + 4294967296 * a4 + 1099511627776 * a5 + 281474976710656 * a6) a7 72057594037927936 56 (by decide) (by omega) h7 (by omega)
  rw [wrap_nat a0 (by omega)]
  erw [j1, j2, j3, j4, j5, j6, j7]
  simp only [num]
  omega

/-- The test as the Go text writes it. -/
def tstI (X : Int) : Bool :=
  bits .and .u64 (bits .or .u64 (bits .or .u64 (bits .or .u64 (IntKind.u64.wrap (X - 2314885530818453536)) (IntKind.u64.wrap (bits .xor .u64 X 2459565876494606882 - 72340172838076673)))
    (IntKind.u64.wrap (bits .xor .u64 X 6655295901103053916 - 72340172838076673))) X) 9259542123273814144 != 0

theorem sub_nat (X S : Nat) (hX : X < 18446744073709551616) (hS : S ≤ 18446744073709551616) : IntKind.u64.wrap ((X : Int) - (S : Int)) = (((X + 18446744073709551616 - S) % 18446744073709551616 : Nat) : Int) := by
  rw [IntKind.wrap_u64]; omega

theorem core (R0 R1 R2 X : Nat) (r0 : R0 < 18446744073709551616) (r1 : R1 < 18446744073709551616) (r2 : R2 < 18446744073709551616) (hX : X < 18446744073709551616) :
    (bits .and .u64 (bits .or .u64 (bits .or .u64 (bits .or .u64 (R0 : Int) (R1 : Int)) (R2 : Int)) (X : Int)) 9259542123273814144 != 0) = (((R0 ||| R1 ||| R2 ||| X) &&& 9259542123273814144) != 0) := by
  have o1 : R0 ||| R1 < 18446744073709551616 := Nat.or_lt_two_pow (n := 64) r0 r1
  have o2 : R0 ||| R1 ||| R2 < 18446744073709551616 := Nat.or_lt_two_pow (n := 64) o1 r2
  have o3 : R0 ||| R1 ||| R2 ||| X < 18446744073709551616 := Nat.or_lt_two_pow (n := 64) o2 hX
  have e := bits_and_u64_nat (R0 ||| R1 ||| R2 ||| X) 9259542123273814144 o3 (by omega)
  simp only [Int.cast_ofNat_Int] at e
  rw [bits_or_u64_nat R0 R1 r0 r1, bits_or_u64_nat _ R2 o1 r2, bits_or_u64_nat _ X o2 hX, e]
  generalize (R0 ||| R1 ||| R2 ||| X) &&& 9259542123273814144 = Z
  by_cases hz : Z = 0
  · subst hz; rfl
  · rw [bne_iff_ne.2 hz, bne_iff_ne]; omega

theorem tstI_eq (X : Nat) (hX : X < 18446744073709551616) :
    tstI X = (term X 2314885530818453536 72340172838076673 2459565876494606882 6655295901103053916 9259542123273814144 18446744073709551616 != 0) := by
  have x1 := bits_xor_u64_nat X 2459565876494606882 hX (by omega)
  have x2 := bits_xor_u64_nat X 6655295901103053916 hX (by omega)
  have l1 : X ^^^ 2459565876494606882 < 18446744073709551616 := Nat.xor_lt_two_pow (n := 64) hX (by omega)
  have l2 : X ^^^ 6655295901103053916 < 18446744073709551616 := Nat.xor_lt_two_pow (n := 64) hX (by omega)
  have s0 := sub_nat X 2314885530818453536 hX (by omega)
  have s1 := sub_nat (X ^^^ 2459565876494606882) 72340172838076673 l1 (by omega)
  have s2 := sub_nat (X ^^^ 6655295901103053916) 72340172838076673 l2 (by omega)
  unfold tstI term
  generalize X ^^^ 2459565876494606882 = Y1 at x1 l1 s1 ⊢
  generalize X ^^^ 6655295901103053916 = Y2 at x2 l2 s2 ⊢
  simp only [Int.cast_ofNat_Int] at x1 x2 s0 s1 s2
  rw [x1, x2, s0, s1, s2]
  have r0 : (X + 18446744073709551616 - 2314885530818453536) % 18446744073709551616 < 18446744073709551616 := Nat.mod_lt _ (by omega)
  have r1 : (Y1 + 18446744073709551616 - 72340172838076673) % 18446744073709551616 < 18446744073709551616 := Nat.mod_lt _ (by omega)
  have r2 : (Y2 + 18446744073709551616 - 72340172838076673) % 18446744073709551616 < 18446744073709551616 := Nat.mod_lt _ (by omega)
  exact core _ _ _ X r0 r1 r2 hX

/-- THE TEST, of eight bytes. -/
theorem tst_iff (a0 a1 a2 a3 a4 a5 a6 a7 : Nat) (h : ∀ x ∈ [a0, a1, a2, a3, a4, a5, a6, a7], x < 256) :
    tstI (num [a0, a1, a2, a3, a4, a5, a6, a7] : Nat) = false ↔ ∀ x ∈ [a0, a1, a2, a3, a4, a5, a6, a7], plB x = true := by
  have hl := num_lt _ h
  have ht := term_iff _ h
  generalize num [a0, a1, a2, a3, a4, a5, a6, a7] = X at *
  have hl' : X < 18446744073709551616 := by simpa using hl
  have e8 : [a0, a1, a2, a3, a4, a5, a6, a7].length = 8 := rfl
  rw [e8, show rep 32 8 = 2314885530818453536 by decide +kernel, show rep 1 8 = 72340172838076673 by decide +kernel, show rep 34 8 = 2459565876494606882 by decide +kernel,
    show rep 92 8 = 6655295901103053916 by decide +kernel, show rep 128 8 = 9259542123273814144 by decide +kernel, show 256 ^ 8 = 18446744073709551616 by decide +kernel] at ht
  rw [tstI_eq X hl', ← ht]
  generalize term X 2314885530818453536 72340172838076673 2459565876494606882 6655295901103053916 9259542123273814144 18446744073709551616 = Z
  rw [bne_eq_false_iff_eq]
end Go.Proofs.Qxb6601728a.plain
