/- A proof of one law of this seat: the walk is ours, the frame is the shell's. -/
import Derived.Test.Qxb6601728aRows
import Derived.Test.Qxb6601728aHead
import Derived.WalkKit
import Derived.ProofKit
import Derived.OpenShut
import Derived.ShutString
import Derived.Test.Qxb6601728aPlain
import Derived.Below
namespace Go.Proofs.Qxb6601728a.fnPlainWordsMatchesFirstSpecialByte
open Go.ChangeShapes Go.WideShapes Go.ChangeAt Go.RowKit
open Go.ChangeMaps (open_string shut_string)
set_option linter.unusedVariables false

theorem own : ownKnob Try.prog.godebug = none := by kernel_rfl

open Go.Proofs.Qxb6601728a.plain

theorem c17 (s : ByteArray) (a b : Int) (w : World) (hs : s.size ≤ maxLen) :
    Calls Try.prog 17 #[.string s, .int .i64 a, .int .i64 b] w fun e w' => e = .returned (.bool (decide (s.size ≤ 1048576))) ∧ w' = w := by
  unfold maxLen at hs
  by_cases hc : s.size ≤ 1048576
  · go_enter Try.func17, Try.ntmps17
    go_wp2
    go_ret
    exact ⟨by simp [hc], rfl⟩
  · go_enter Try.func17, Try.ntmps17
    go_wp2
    go_ret
    exact ⟨by simp [hc], rfl⟩

set_option maxHeartbeats 1000000 in
theorem away (s : ByteArray) (pos depth : Int) (w : World) (hs : s.size ≤ maxLen) (h : ¬ s.size ≤ 1048576 ∨ pos < 0) :
    Calls Try.prog 6 #[.string s, .int .i64 pos, .int .i64 depth] w fun e w' => e = .returned (.bool true) ∧ Below w.heap.size w w' := by
  by_cases hc : s.size ≤ 1048576
  · have hd1 : decide (s.size ≤ 1048576) = true := decide_eq_true hc
    have hi : pos < 0 := by omega
    go_enter Try.func6, Try.ntmps6
    go_wp2_with (go_at_call 17; refine (c17 s pos depth _ hs).mono ?_; rintro e w' ⟨rfl, hww⟩; replace hww := hww.symm; subst hww)
    go_ret
    exact ⟨rfl, Below.refl _ _⟩
  · have hd1 : decide (s.size ≤ 1048576) = false := decide_eq_false hc
    go_enter Try.func6, Try.ntmps6
    go_wp2_with (go_at_call 17; refine (c17 s pos depth _ hs).mono ?_; rintro e w' ⟨rfl, hww⟩; replace hww := hww.symm; subst hww)
    go_ret
    exact ⟨rfl, Below.refl _ _⟩

set_option maxRecDepth 100000 in
set_option maxHeartbeats 1000000 in
theorem main (s : ByteArray) (pos : Nat) (depth : Int) (w : World) (hs : s.size ≤ 1048576) (hp : pos ≤ 9223372036854775807) :
    Calls Try.prog 6 #[.string s, .int .i64 (pos : Int), .int .i64 depth] w fun e w' => e = .returned (.bool true) ∧ Below w.heap.size w w' := by
  have hd1 : decide (s.size ≤ 1048576) = true := decide_eq_true hs
  have H19 := hide (c19 s pos depth w hs hp)
  go_enter Try.func6, Try.ntmps6
  go_wp2_with (go_at_call 17; refine (c17 s pos depth _ (by unfold maxLen; omega)).mono ?_; rintro e w' ⟨rfl, hww⟩; replace hww := hww.symm; subst hww)
  go_loop [7] (fun j => ∃ k : Nat, pos ≤ k ∧ k ≤ 9223372036854775807 ∧ j = .int .i64 (k : Int) ∧ stop (fb s) s.size pos = stop (fb s) s.size k) (fun j => s.size - (intOf j).toNat)
  case atStart => exact ⟨pos, Nat.le_refl _, hp, rfl, rfl⟩
  case round =>
    obtain ⟨k, hk, hk2, rfl, he⟩ := hrel
    have HE := hide he
    clear he
    by_cases hlt : k < s.size
    · have hg := fb_get s k hlt
      have H18 := hide (c18 s[k].toNat w)
      by_cases hpl : plB s[k].toNat = true
      · have HE2 := hide ((unhide HE).trans (stop_yes (fb s) s.size k hlt (by rw [← hg]; exact hpl)))
        clear hg HE
        go_wp2_with (go_at_call 18; refine (unhide H18).mono ?_; rintro e w' ⟨rfl, hww⟩; replace hww := hww.symm; subst hww)
        exact ⟨⟨k + 1, by omega, by omega, by go_num, unhide HE2⟩, by simp [intOf]; omega⟩
      · have hpf : plB s[k].toNat = false := by simpa using hpl
        have HE2 := hide ((unhide HE).trans (stop_no (fb s) s.size k hlt (by rw [← hg]; exact hpf)))
        clear hg HE hpl
        go_wp2_with (go_at_call 18; refine (unhide H18).mono ?_; rintro e w' ⟨rfl, hww⟩; replace hww := hww.symm; subst hww)
        have hw8 : ((want (fb s) s.size pos : Nat) : Int) = (pos : Int) + ((k : Int) - (pos : Int)) / 8 * 8 := by
          unfold want
          rw [unhide HE2]
          omega
        rw [hw8] at H19
        clear hw8
        refine (unhide H19).mono ?_
        rintro e w1 ⟨rfl, hb⟩
        have HB := hide hb
        clear hb
        go_wp2
        go_ret
        exact ⟨by simp, unhide HB⟩
    · have HE2 := hide ((unhide HE).trans (stop_end (fb s) s.size k (by omega)))
      clear HE
      go_wp2_with fail
      have hw8 : ((want (fb s) s.size pos : Nat) : Int) = (pos : Int) + ((k : Int) - (pos : Int)) / 8 * 8 := by
        unfold want
        rw [unhide HE2]
        omega
      rw [hw8] at H19
      clear hw8
      refine (unhide H19).mono ?_
      rintro e w1 ⟨rfl, hb⟩
      have HB := hide hb
      clear hb
      go_wp2
      go_ret
      exact ⟨by simp, unhide HB⟩

theorem walk (a0 : ByteArray) (a1 : Int) (a2 : Int) (w0 : a0.size ≤ maxLen) (w1 : (Lit.int .i64 a1).wf = true) (w2 : (Lit.int .i64 a2).wf = true) (w : World) :
    Calls Try.prog 6 #[.string a0, .int .i64 a1, .int .i64 a2] w fun e w' => e = .returned (.bool true) ∧ Below w.heap.size w w' := by
  have h1 := bounds_i64 w1
  by_cases h : ¬ a0.size ≤ 1048576 ∨ a1 < 0
  · exact away a0 a1 a2 w w0 h
  · obtain ⟨i, rfl⟩ := Int.eq_ofNat_of_zero_le (show 0 ≤ a1 by omega)
    exact main a0 i a2 w (by omega) (by omega)

/-! ### The row's step -/
set_option maxRecDepth 100000 in
theorem lifted (os : Os) (started : os.Started) (H : Type) (enc : TypeId × Value → H) :
    ReturnsInHanded {} Try.checked os 6 .any (Rows.fnPlainWordsMatchesFirstSpecialByteSpec.pre6 enc Try.prog Try.f6 Rows.fnPlainWordsMatchesFirstSpecialByteRow.domain false) (Rows.fnPlainWordsMatchesFirstSpecialByteSpec.post enc Try.prog Try.f6 false true false false) := by
  refine returnsInHanded_of_change (C := Try.checked) own started (by kernel_rfl) Try.func6
    (ChangeSpec.witness6 (enc := enc) (C := Try.checked) false ⟨#[], #[.string ByteArray.empty, .int .i64 0, .int .i64 0], []⟩ 8 (by kernel_rfl) (by kernel_rfl) (by kernel_rfl) (by kernel_rfl)) ?_
  intro W base args ds gs before hval0 hW hcnd _
  have hval : ∀ (j : Nat) t v, Try.f6.params[j]? = some t → args[j]? = some v → Value.okWide Try.prog W .any base t v := hval0
  have hW' := hW
  obtain ⟨p, q, hA0, hV, rfl, hfz, hnd⟩ := hW
  have hA : DataW.TrodAll enc Try.prog W 0 (fun _ => true) true Try.f6.params.toList args.toList ds p := hA0
  rw [Try.params6] at hA hval
  obtain ⟨v0, vs0, d0, ds0, p0, q0, hargs, rfl, rfl, h0, r0⟩ := trodAll_cons hA
  obtain ⟨v1, vs1, d1, ds1, p1, q1, rfl, rfl, rfl, h1, r1⟩ := trodAll_cons r0
  obtain ⟨v2, vs2, d2, ds2, p2, q2, rfl, rfl, rfl, h2, r2⟩ := trodAll_cons r1
  obtain ⟨rfl, rfl, rfl⟩ := trodAll_nil r2
  obtain rfl : args = #[v0, v1, v2] := by cases args; simp_all
  obtain ⟨rfl, rfl⟩ := trodVars_none hV
  obtain ⟨a0, rfl, rfl, rfl, w0⟩ := open_string Try.underlying9 (hval 0 9 v0 rfl rfl) h0
  obtain ⟨a1, rfl, rfl, rfl, w1⟩ := open_int Try.underlying3 (hval 1 3 v1 rfl rfl) h1
  obtain ⟨a2, rfl, rfl, rfl, w2⟩ := open_int Try.underlying3 (hval 2 3 v2 rfl rfl) h2
  clear hA0 hval0
  simp only [List.append_nil] at hW'
  refine (walk a0 a1 a2 w0 w1 w2 W).mono fun e W' ⟨he, hg⟩ => ?_
  subst he
  exact ⟨_, rfl, _, _, _, [], [], [], hW', trodAll_mk1 (shut_bool Try.underlying4 _), (trodAll_cons_mk (shut_string Try.underlying9 w0) (trodAll_cons_mk (shut_int Try.underlying3 w1) (trodAll_cons_mk (shut_int Try.underlying3 w2) trodAll_mk0))), rfl, hg.frame _, fun h => by cases h⟩

theorem closed : joinedFacts Try.prog 6 Try.f6 Rows.fnPlainWordsMatchesFirstSpecialByteSpec Rows.fnPlainWordsMatchesFirstSpecialByteRow = true := by
  unfold joinedFacts
  rw [head.mayEnter, head.liftsFinal, head.make]
  kernel_rfl

theorem over : Rows.fnPlainWordsMatchesFirstSpecialByteRow.holds Try.pinned (OpenSpec.ofChange Rows.fnPlainWordsMatchesFirstSpecialByteSpec) :=
  OpenClaim.holds_of_wide 6 Try.f6 rfl rfl rfl rfl rfl rfl rfl ⟨rfl, rfl, rfl, rfl, rfl⟩ rfl rfl rfl rfl rfl (by kernel_rfl) Try.func6 closed
    (of_decide_eq_true (by kernel_rfl)) (by unfold Func.isWrapper; first | (rw [if_pos (by decide +kernel)]; kernel_rfl) | (rw [if_neg (by decide +kernel)]; exact ⟨rfl, rfl⟩))
    (fun os started H enc _ => lifted os started H enc)

/-- The statement. -/
theorem proved : Rows.FnPlainWordsMatchesFirstSpecialByteSaid :=
  over
end Go.Proofs.Qxb6601728a.fnPlainWordsMatchesFirstSpecialByte
