/- The contracts of plainWords, ZZPlainWords and b1Plain. -/
import Derived.Test.Qxb6601728aRows
import Derived.Test.Qxb6601728aPlainBits
import Derived.WalkKit
import Derived.ProofKit
import Derived.Below
import Derived.Deep.QuietTactic
import Derived.BigQuiet
namespace Go.Proofs.Qxb6601728a.plain
open Go.ChangeShapes Go.WideShapes Go.ChangeAt Go.RowKit
set_option linter.unusedVariables false
theorem hide {p : Prop} (h : p) : Hid p := h
theorem unhide {p : Prop} (h : Hid p) : p := h

/-- Byte j of a string. -/
def fb (s : ByteArray) (j : Nat) : Nat := (s.data.getD j 0).toNat
theorem fb_get (s : ByteArray) (k : Nat) (h : k < s.size) : s[k].toNat = fb s k := by
  unfold fb
  have h' : k < s.data.size := h
  rw [Array.getD_eq_getD_getElem?, Array.getElem?_eq_getElem h']
  rfl
theorem fb_lt (s : ByteArray) (k : Nat) : fb s k < 256 := (s.data.getD k 0).toNat_lt
theorem fb_extract (s : ByteArray) (a b j : Nat) (hb : b ≤ s.size) (hj : a + j < b) (h : j < (s.extract a b).size) : (s.extract a b)[j].toNat = fb s (a + j) := by
  rw [← fb_get s (a + j) (by omega), ByteArray.getElem_extract]

/-- The Go text's test at place k of the text. -/
theorem test_at (s : ByteArray) (k : Nat) (h : k + 8 ≤ s.size) (t : ByteArray) (ht : t = s.extract k (k + 8)) (h8 : t.size = 8) :
    tstI (wordI (t[0].toNat : Nat) (t[1].toNat : Nat) (t[2].toNat : Nat) (t[3].toNat : Nat) (t[4].toNat : Nat) (t[5].toNat : Nat) (t[6].toNat : Nat) (t[7].toNat : Nat)) = false ↔ ∀ j, j < 8 → plB (fb s (k + j)) = true := by
  subst ht
  have l := fun j => fb_lt s (k + j)
  rw [fb_extract s k (k + 8) 0 h (by omega), fb_extract s k (k + 8) 1 h (by omega), fb_extract s k (k + 8) 2 h (by omega), fb_extract s k (k + 8) 3 h (by omega), fb_extract s k (k + 8) 4 h (by omega),
    fb_extract s k (k + 8) 5 h (by omega), fb_extract s k (k + 8) 6 h (by omega), fb_extract s k (k + 8) 7 h (by omega)]
  rw [wordI_eq _ _ _ _ _ _ _ _ (l 0) (l 1) (l 2) (l 3) (l 4) (l 5) (l 6) (l 7), tst_iff]
  · constructor
    · intro q j hj
      match j, hj with
      | 0, _ => exact q _ (by simp)
      | 1, _ => exact q _ (by simp)
      | 2, _ => exact q _ (by simp)
      | 3, _ => exact q _ (by simp)
      | 4, _ => exact q _ (by simp)
      | 5, _ => exact q _ (by simp)
      | 6, _ => exact q _ (by simp)
      | 7, _ => exact q _ (by simp)
    · intro q x hx
      simp only [List.mem_cons, List.not_mem_nil, or_false] at hx
      rcases hx with rfl | rfl | rfl | rfl | rfl | rfl | rfl | rfl
      · exact q 0 (by omega)
      · exact q 1 (by omega)
      · exact q 2 (by omega)
      · exact q 3 (by omega)
      · exact q 4 (by omega)
      · exact q 5 (by omega)
      · exact q 6 (by omega)
      · exact q 7 (by omega)
  · intro x hx
    simp only [List.mem_cons, List.not_mem_nil, or_false] at hx
    rcases hx with rfl | rfl | rfl | rfl | rfl | rfl | rfl | rfl
    · exact l 0
    · exact l 1
    · exact l 2
    · exact l 3
    · exact l 4
    · exact l 5
    · exact l 6
    · exact l 7

set_option maxRecDepth 100000 in
set_option maxHeartbeats 2000000 in
theorem c28 (s : ByteArray) (b : Nat) (pos : Nat) (w : World) (hs : s.size ≤ 1048576) (hp : pos ≤ 9223372036854775807) (h0 : w.cell? ⟨b, 0, none⟩ = some (.string s)) (h1 : w.cell? ⟨b, 1, none⟩ = some (.int .i64 (pos : Int))) (f1 : w.frozen? ⟨b, 1, none⟩ = false) :
    Calls Try.prog 28 #[.pointer (some ⟨b, 0, none⟩)] w fun e w' => e = .returned (.tuple #[]) ∧ ∃ nq, w' = (w.drewN nq).setCell ⟨b, 1, none⟩ (.int .i64 (want (fb s) s.size pos : Nat)) := by
  go_enter Try.func28, Try.ntmps28
  go_wp2
  go_quiet (fail)
  go_wp2
  go_loopw [3] (fun i wr => ∃ k nq : Nat, i = .int .i64 (k : Int) ∧ wr = w.drewN nq ∧ k ≤ 9223372036854775807 ∧ want (fb s) s.size pos = want (fb s) s.size k) (fun i _ => s.size - (intOf i).toNat)
  case atStart => exact ⟨pos, nq, rfl, rfl, hp, rfl⟩
  case round =>
    obtain ⟨k, nq1, rfl, rfl, hk, he⟩ := hrel
    have HE := hide he
    clear he
    by_cases hlt : k + 8 ≤ s.size
    · have hsl : ∀ w, (Instr.slice 9 (.string s) (some (.int .i64 (k : Int))) (some (.int .i64 ((k : Int) + 8))) none).run Try.prog w = .ok (.string (s.extract k (k + 8))) w := fun w => run_slice_string (P := Try.prog) w 9 s .i64 .i64 (k : Int) ((k : Int) + 8) Try.underlying9 (by omega) (by omega) (by omega)
      have hsz : (s.extract k (k + 8)).size = 8 := by rw [ByteArray.size_extract]; omega
      have hta := test_at s k hlt _ rfl hsz
      generalize s.extract k (k + 8) = t at *
      by_cases hall : ∀ j, j < 8 → plB (fb s (k + j)) = true
      · have ht := hta.2 hall
        have HE2 := hide ((unhide HE).trans (want_word (fb s) s.size k hlt hall))
        clear hta HE hall
        unfold tstI wordI at ht
        go_wp2
        go_quiet (fail)
        go_wp2
        exact ⟨⟨k + 8, nq1 + nq, by go_num, rfl, by omega, unhide HE2⟩, by simp [intOf]; omega⟩
      · have ht := eq_true_of_ne_false (fun q => hall (hta.1 q))
        obtain ⟨m, hm1, hm2⟩ : ∃ m, m < 8 ∧ plB (fb s (k + m)) = false := by
          apply Classical.byContradiction
          intro hno
          apply hall
          intro j hj
          by_cases c : plB (fb s (k + j)) = true
          · exact c
          · exact absurd ⟨j, hj, by simpa using c⟩ hno
        have HE2 := hide ((unhide HE).trans (want_bad (fb s) s.size k m hlt hm1 hm2))
        clear hta HE hall hm2
        unfold tstI wordI at ht
        go_wp2
        go_quiet (fail)
        go_wp2
        go_end0
        exact ⟨rfl, _, by rw [unhide HE2]⟩
    · have HE2 := hide ((unhide HE).trans (want_short (fb s) s.size k (by omega)))
      clear HE
      go_wp2
      go_end0
      exact ⟨rfl, _, by rw [unhide HE2]⟩

theorem below_drewN {B : Nat} {a w : World} (h : Below B a w) (m : Nat) : Below B a (w.drewN m) := ⟨h.os, h.tape, h.output, h.size, h.block⟩

set_option maxRecDepth 100000 in
set_option maxHeartbeats 1000000 in
theorem c19 (s : ByteArray) (pos : Nat) (depth : Int) (w : World) (hs : s.size ≤ 1048576) (hp : pos ≤ 9223372036854775807) :
    Calls Try.prog 19 #[.string s, .int .i64 (pos : Int), .int .i64 depth] w fun e w' => e = .returned (.tuple #[.string s, .int .i64 (want (fb s) s.size pos : Nat), .int .i64 depth]) ∧ Below w.heap.size w w' := by
  go_enter Try.func19, Try.ntmps19
  go_wp2_with fail
  refine (c28 s w.heap.size pos _ hs hp (by simp) (by simp) (by simp)).mono ?_
  rintro e w1 ⟨rfl, nq, rfl⟩
  have hb1 : Below w.heap.size w (((w.alloc (.cells #[.string s, .int .i64 (pos : Int), .int .i64 depth] 38)).drewN nq).setCell ⟨w.heap.size, 1, none⟩ (.int .i64 (want (fb s) s.size pos : Nat))) :=
    (below_drewN ((Below.refl _ _).alloc (Nat.le_refl _) _) nq).setCell (Nat.le_refl _) _
  have e0 : (((w.alloc (.cells #[.string s, .int .i64 (pos : Int), .int .i64 depth] 38)).drewN nq).setCell ⟨w.heap.size, 1, none⟩ (.int .i64 (want (fb s) s.size pos : Nat))).cell? ⟨w.heap.size, 0, none⟩ = some (.string s) := by
    rw [World.cell?_setCell_other _ _ _ _ (by simp)]; simp
  have e1 : (((w.alloc (.cells #[.string s, .int .i64 (pos : Int), .int .i64 depth] 38)).drewN nq).setCell ⟨w.heap.size, 1, none⟩ (.int .i64 (want (fb s) s.size pos : Nat))).cell? ⟨w.heap.size, 1, none⟩ = some (.int .i64 (want (fb s) s.size pos : Nat)) :=
    World.cell?_setCell_same _ _ _ (u := .int .i64 (pos : Int)) (by simp)
  have e2 : (((w.alloc (.cells #[.string s, .int .i64 (pos : Int), .int .i64 depth] 38)).drewN nq).setCell ⟨w.heap.size, 1, none⟩ (.int .i64 (want (fb s) s.size pos : Nat))).cell? ⟨w.heap.size, 2, none⟩ = some (.int .i64 depth) := by
    rw [World.cell?_setCell_other _ _ _ _ (by simp)]; simp
  have HB := hide hb1
  clear hb1
  generalize ((w.alloc (.cells #[.string s, .int .i64 (pos : Int), .int .i64 depth] 38)).drewN nq).setCell ⟨w.heap.size, 1, none⟩ (.int .i64 (want (fb s) s.size pos : Nat)) = w2 at *
  go_wp2
  go_quiet (fail)
  go_wp2
  go_ret3
  exact ⟨rfl, below_drewN (unhide HB) _⟩

set_option maxRecDepth 100000 in
theorem c18 (c : Nat) (w : World) : Calls Try.prog 18 #[.int .u8 (c : Int)] w fun e w' => e = .returned (.bool (plB c)) ∧ w' = w := by
  by_cases h1 : 32 ≤ c
  · by_cases h2 : c < 128
    · by_cases h3 : c = 34
      · subst h3
        go_enter Try.func18, Try.ntmps18
        go_wp2
        go_ret
        exact ⟨rfl, rfl⟩
      · by_cases h4 : c = 92
        · subst h4
          go_enter Try.func18, Try.ntmps18
          go_wp2
          go_ret
          exact ⟨rfl, rfl⟩
        · have e : plB c = true := by simp [plB, h1, h2, h3, h4]
          have d3 : ((c : Int) != 34) = true := by rw [bne_iff_ne]; omega
          have d4 : ((c : Int) != 92) = true := by rw [bne_iff_ne]; omega
          rw [e]
          go_enter Try.func18, Try.ntmps18
          go_wp2
          go_ret
          exact ⟨rfl, rfl⟩
    · have e : plB c = false := by simp [plB, h2]
      have d2 : decide ((c : Int) < 128) = false := decide_eq_false (by omega)
      rw [e]
      go_enter Try.func18, Try.ntmps18
      go_wp2
      go_ret
      exact ⟨rfl, rfl⟩
  · have e : plB c = false := by simp [plB, h1]
    have d1 : decide ((32 : Int) ≤ (c : Int)) = false := decide_eq_false (by omega)
    rw [e]
    go_enter Try.func18, Try.ntmps18
    go_wp2
    go_ret
    exact ⟨rfl, rfl⟩
end Go.Proofs.Qxb6601728a.plain
