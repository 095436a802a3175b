/- A proof of one law of this seat: the walk is ours, the frame is the shell's. -/
import Derived.Test.Qxb6601728aRows
import Derived.Test.Qxb6601728aHead
import Derived.WalkKit
import Derived.ProofKit
import Derived.OpenShut
import Derived.ShutString
import Derived.Test.Qxb6601728aHex
import Derived.Below
import Derived.Deep.Cut
import Derived.Deep.DeepCutAuto
namespace Go.Proofs.Qxb6601728a.fnHex4MatchesDigitModel
open Go.ChangeShapes Go.WideShapes Go.ChangeAt Go.RowKit
open Go.ChangeMaps (open_string shut_string)
set_option linter.unusedVariables false

theorem own : ownKnob Try.prog.godebug = none := by kernel_rfl

open Go.Proofs.Qxb6601728a.hex

theorem c12 (s : ByteArray) (a b i : Int) (w : World) (hs : s.size ≤ maxLen) :
    Calls Try.prog 12 #[.string s, .int .i64 a, .int .i64 b, .int .i64 i] w fun e w' => e = .returned (.bool (decide (s.size ≤ 1048576))) ∧ w' = w := by
  unfold maxLen at hs
  by_cases hc : s.size ≤ 1048576
  · go_enter Try.func12, Try.ntmps12
    go_wp2
    go_ret
    exact ⟨by simp [hc], rfl⟩
  · go_enter Try.func12, Try.ntmps12
    go_wp2
    go_ret
    exact ⟨by simp [hc], rfl⟩

/-- b1HexDigits. -/
def HD : ByteArray := ⟨#[48, 49, 50, 51, 52, 53, 54, 55, 56, 57, 97, 98, 99, 100, 101, 102, 65, 66, 67, 68, 69, 70]⟩
/-- The search from place k on. -/
def look (c : Int) : Nat → Nat → Int
  | 0, _ => -1
  | f + 1, k => if bt HD k = c then (if k < 16 then (k : Int) else (k : Int) - 6) else look c f (k + 1)

theorem look_hx (c : Int) (h0 : 0 ≤ c) (h1 : c ≤ 255) : look c 22 0 = hx c := by
  obtain ⟨n, rfl⟩ := Int.eq_ofNat_of_zero_le h0
  have key : ∀ n : Nat, n < 256 → look (n : Int) 22 0 = hx (n : Int) := by decide +kernel
  exact key n (by omega)

set_option maxRecDepth 100000 in
set_option maxHeartbeats 1000000 in
theorem c13 (c : Int) (w : World) (h0 : 0 ≤ c) (h1 : c ≤ 255) :
    Calls Try.prog 13 #[.int .u8 c] w fun e w' => e = .returned (.int .i64 (hx c)) ∧ w' = w := by
  rw [← look_hx c h0 h1]
  go_enter Try.func13, Try.ntmps13
  go_wp2
  go_loop [3] (fun i => ∃ k : Nat, k ≤ 22 ∧ i = .int .i64 (k : Int) ∧ look c 22 0 = look c (22 - k) k) (fun i => 22 - (intOf i).toNat)
  case atStart => exact ⟨0, by omega, rfl, rfl⟩
  case round =>
    obtain ⟨k, hk, rfl, he⟩ := hrel
    have HE := hide he
    clear he
    by_cases hlt : k < 22
    · have hz : HD.size = 22 := by decide
      have hstep : look c (22 - k) k = if bt HD k = c then (if k < 16 then (k : Int) else (k : Int) - 6) else look c (22 - (k + 1)) (k + 1) := by
        rw [show 22 - k = (22 - (k + 1)) + 1 by omega]; rfl
      have HE2 := hide ((unhide HE).trans hstep)
      have hg := bt_get HD k (by omega)
      have HG := hide hg
      clear HE hstep hg
      go_wp2
      · have e : bt HD k = c := by rw [← unhide HG]; exact beq_iff_eq.1 ‹_›
        go_ret
        exact ⟨ret_int (by rw [unhide HE2, if_pos e, if_pos (by omega)]), rfl⟩
      · have e : bt HD k = c := by rw [← unhide HG]; exact beq_iff_eq.1 ‹_›
        go_ret
        exact ⟨ret_int (by rw [unhide HE2, if_pos e, if_neg (by omega)]), rfl⟩
      · have e : ¬ bt HD k = c := by rw [← unhide HG]; exact beq_eq_false_iff_ne.1 ‹_›
        exact ⟨⟨k + 1, by omega, by go_num, by rw [unhide HE2, if_neg e]⟩, by simp [intOf]; omega⟩
    · have e : k = 22 := by omega
      subst e
      go_wp2
      go_ret
      exact ⟨ret_int (by rw [unhide HE]; rfl), rfl⟩

theorem u8_ge (x : UInt8) : 0 ≤ (x.toNat : Int) := by omega
theorem u8_le (x : UInt8) : (x.toNat : Int) ≤ 255 := by have := x.toNat_lt; omega

set_option maxRecDepth 100000 in
set_option maxHeartbeats 1000000 in
theorem main_no (s : ByteArray) (pos depth : Int) (i : Nat) (w : World) (hs : s.size ≤ 1048576) (him : i ≤ 9223372036854775807) (hi : ¬ (i + 6 ≤ s.size ∧ bt s i = 92 ∧ bt s (i + 1) = 117)) :
    Calls Try.prog 3 #[.string s, .int .i64 pos, .int .i64 depth, .int .i64 (i : Int)] w fun e w' => e = .returned (.bool true) ∧ Below w.heap.size w w' := by
  have hd1 : decide (s.size ≤ 1048576) = true := decide_eq_true hs
  have e4 : h4 s i = -1 := if_neg hi
  have H14 := hide (c14 s pos depth i w (by omega) him)
  rw [e4] at H14
  clear e4
  by_cases h1 : i + 6 ≤ s.size
  · by_cases c0 : bt s i = 92
    · have c1 : ¬ bt s (i + 1) = 117 := fun q => hi ⟨h1, c0, q⟩
      have d2 : ((s[i].toNat : Int) == 92) = true := by rw [bt_get s i (by omega), c0]; rfl
      have d3 : ((s[i+1].toNat : Int) == 117) = false := by rw [bt_get s (i + 1) (by omega), beq_eq_false_iff_ne]; exact c1
      clear c0 c1 hi
      go_enter Try.func3, Try.ntmps3
      go_wp2_with (first | (go_at_call 12; refine (c12 s pos depth i _ (by unfold maxLen; omega)).mono ?_; rintro e w' ⟨rfl, hww⟩; replace hww := hww.symm; subst hww) | (go_at_call 14; refine (unhide H14).mono ?_; rintro e w1 ⟨rfl, hb⟩; have HB := hide hb; clear hb))
      go_ret
      exact ⟨by simp, unhide HB⟩
    · have d2 : ((s[i].toNat : Int) == 92) = false := by rw [bt_get s i (by omega), beq_eq_false_iff_ne]; exact c0
      clear c0 hi
      go_enter Try.func3, Try.ntmps3
      go_wp2_with (first | (go_at_call 12; refine (c12 s pos depth i _ (by unfold maxLen; omega)).mono ?_; rintro e w' ⟨rfl, hww⟩; replace hww := hww.symm; subst hww) | (go_at_call 14; refine (unhide H14).mono ?_; rintro e w1 ⟨rfl, hb⟩; have HB := hide hb; clear hb))
      go_ret
      exact ⟨by simp, unhide HB⟩
  · clear hi
    by_cases h2 : i ≤ s.size
    · go_enter Try.func3, Try.ntmps3
      go_wp2_with (first | (go_at_call 12; refine (c12 s pos depth i _ (by unfold maxLen; omega)).mono ?_; rintro e w' ⟨rfl, hww⟩; replace hww := hww.symm; subst hww) | (go_at_call 14; refine (unhide H14).mono ?_; rintro e w1 ⟨rfl, hb⟩; have HB := hide hb; clear hb))
      go_ret
      exact ⟨by simp, unhide HB⟩
    · go_enter Try.func3, Try.ntmps3
      go_wp2_with (first | (go_at_call 12; refine (c12 s pos depth i _ (by unfold maxLen; omega)).mono ?_; rintro e w' ⟨rfl, hww⟩; replace hww := hww.symm; subst hww) | (go_at_call 14; refine (unhide H14).mono ?_; rintro e w1 ⟨rfl, hb⟩; have HB := hide hb; clear hb))
      go_ret
      exact ⟨by simp, unhide HB⟩


set_option maxRecDepth 100000 in
set_option maxHeartbeats 2000000 in
theorem main_yes (s : ByteArray) (pos depth : Int) (i : Nat) (w : World) (hs : s.size ≤ 1048576) (h1 : i + 6 ≤ s.size) (c0 : bt s i = 92) (c1 : bt s (i + 1) = 117) :
    Calls Try.prog 3 #[.string s, .int .i64 pos, .int .i64 depth, .int .i64 (i : Int)] w fun e w' => e = .returned (.bool true) ∧ Below w.heap.size w w' := by
  have hd1 : decide (s.size ≤ 1048576) = true := decide_eq_true hs
  have e4 : h4 s i = val (fun j => bt s (i + 2 + j)) := if_pos ⟨h1, c0, c1⟩
  have H14 := hide (c14 s pos depth i w (by omega) (by omega))
  have d2 : ((s[i].toNat : Int) == 92) = true := by rw [bt_get s i (by omega), c0]; rfl
  have d3 : ((s[i+1].toNat : Int) == 117) = true := by rw [bt_get s (i + 1) (by omega), c1]; rfl
  have g2 := bt_get s (i + 2) (by omega)
  have g3 := bt_get s (i + 3) (by omega)
  have g4 := bt_get s (i + 4) (by omega)
  have g5 := bt_get s (i + 5) (by omega)
  have b2 := hx_bd (s[i+2].toNat : Int)
  have b3 := hx_bd (s[i+3].toNat : Int)
  have b4 := hx_bd (s[i+4].toNat : Int)
  have b5 := hx_bd (s[i+5].toNat : Int)
  have ev : h4 s i = if 0 ≤ hx (s[i+2].toNat : Int) ∧ 0 ≤ hx (s[i+3].toNat : Int) ∧ 0 ≤ hx (s[i+4].toNat : Int) ∧ 0 ≤ hx (s[i+5].toNat : Int) then hx (s[i+2].toNat : Int) * 4096 + hx (s[i+3].toNat : Int) * 256 + hx (s[i+4].toNat : Int) * 16 + hx (s[i+5].toNat : Int) else -1 := by
    rw [e4, g2, g3, g4, g5]
    unfold val
    by_cases q : 0 ≤ hx (bt s (i + 2)) ∧ 0 ≤ hx (bt s (i + 3)) ∧ 0 ≤ hx (bt s (i + 4)) ∧ 0 ≤ hx (bt s (i + 5))
    · rw [if_pos q, if_pos (by exact q)]
      simp only [rd]
      show (((0 * 16 + hx (bt s (i + 2))) * 16 + hx (bt s (i + 3))) * 16 + hx (bt s (i + 4))) * 16 + hx (bt s (i + 5)) = _
      omega
    · rw [if_neg q, if_neg (by exact q)]
  clear e4 c0 c1 g2 g3 g4 g5
  by_cases p2 : 0 ≤ hx (s[i+2].toNat : Int)
  · by_cases p3 : 0 ≤ hx (s[i+3].toNat : Int)
    · by_cases p4 : 0 ≤ hx (s[i+4].toNat : Int)
      · by_cases p5 : 0 ≤ hx (s[i+5].toNat : Int)
        · rw [ev, if_pos ⟨p2, p3, p4, p5⟩] at H14
          clear ev
          go_enter Try.func3, Try.ntmps3
          go_wp2_with (first | (go_at_call 12; refine (c12 s pos depth i _ (by unfold maxLen; omega)).mono ?_; rintro e w' ⟨rfl, hww⟩; replace hww := hww.symm; subst hww) | (go_at_call 13; refine (c13 _ _ (u8_ge _) (u8_le _)).mono ?_; rintro e w' ⟨rfl, hww⟩; replace hww := hww.symm; subst hww) | (go_at_call 14; refine (unhide H14).mono ?_; rintro e w1 ⟨rfl, hb⟩; have HB := hide hb; clear hb))
          go_ret
          exact ⟨by simp, unhide HB⟩
        · rw [ev, if_neg (fun q => p5 q.2.2.2)] at H14
          clear ev
          go_enter Try.func3, Try.ntmps3
          go_wp2_with (first | (go_at_call 12; refine (c12 s pos depth i _ (by unfold maxLen; omega)).mono ?_; rintro e w' ⟨rfl, hww⟩; replace hww := hww.symm; subst hww) | (go_at_call 13; refine (c13 _ _ (u8_ge _) (u8_le _)).mono ?_; rintro e w' ⟨rfl, hww⟩; replace hww := hww.symm; subst hww) | (go_at_call 14; refine (unhide H14).mono ?_; rintro e w1 ⟨rfl, hb⟩; have HB := hide hb; clear hb))
          go_ret
          exact ⟨by simp, unhide HB⟩
      · rw [ev, if_neg (fun q => p4 q.2.2.1)] at H14
        clear ev
        go_enter Try.func3, Try.ntmps3
        go_wp2_with (first | (go_at_call 12; refine (c12 s pos depth i _ (by unfold maxLen; omega)).mono ?_; rintro e w' ⟨rfl, hww⟩; replace hww := hww.symm; subst hww) | (go_at_call 13; refine (c13 _ _ (u8_ge _) (u8_le _)).mono ?_; rintro e w' ⟨rfl, hww⟩; replace hww := hww.symm; subst hww) | (go_at_call 14; refine (unhide H14).mono ?_; rintro e w1 ⟨rfl, hb⟩; have HB := hide hb; clear hb))
        go_ret
        exact ⟨by simp, unhide HB⟩
    · rw [ev, if_neg (fun q => p3 q.2.1)] at H14
      clear ev
      go_enter Try.func3, Try.ntmps3
      go_wp2_with (first | (go_at_call 12; refine (c12 s pos depth i _ (by unfold maxLen; omega)).mono ?_; rintro e w' ⟨rfl, hww⟩; replace hww := hww.symm; subst hww) | (go_at_call 13; refine (c13 _ _ (u8_ge _) (u8_le _)).mono ?_; rintro e w' ⟨rfl, hww⟩; replace hww := hww.symm; subst hww) | (go_at_call 14; refine (unhide H14).mono ?_; rintro e w1 ⟨rfl, hb⟩; have HB := hide hb; clear hb))
      go_ret
      exact ⟨by simp, unhide HB⟩
  · rw [ev, if_neg (fun q => p2 q.1)] at H14
    clear ev
    go_enter Try.func3, Try.ntmps3
    go_wp2_with (first | (go_at_call 12; refine (c12 s pos depth i _ (by unfold maxLen; omega)).mono ?_; rintro e w' ⟨rfl, hww⟩; replace hww := hww.symm; subst hww) | (go_at_call 13; refine (c13 _ _ (u8_ge _) (u8_le _)).mono ?_; rintro e w' ⟨rfl, hww⟩; replace hww := hww.symm; subst hww) | (go_at_call 14; refine (unhide H14).mono ?_; rintro e w1 ⟨rfl, hb⟩; have HB := hide hb; clear hb))
    go_ret
    exact ⟨by simp, unhide HB⟩


set_option maxHeartbeats 1000000 in
theorem away (s : ByteArray) (pos depth i : Int) (w : World) (hs : s.size ≤ maxLen) (h : ¬ s.size ≤ 1048576 ∨ i < 0) :
    Calls Try.prog 3 #[.string s, .int .i64 pos, .int .i64 depth, .int .i64 i] w fun e w' => e = .returned (.bool true) ∧ Below w.heap.size w w' := by
  by_cases hc : s.size ≤ 1048576
  · have hd1 : decide (s.size ≤ 1048576) = true := decide_eq_true hc
    have hi : i < 0 := by omega
    go_enter Try.func3, Try.ntmps3
    go_wp2_with (go_at_call 12; refine (c12 s pos depth i _ hs).mono ?_; rintro e w' ⟨rfl, hww⟩; replace hww := hww.symm; subst hww)
    go_ret
    exact ⟨rfl, Below.refl _ _⟩
  · have hd1 : decide (s.size ≤ 1048576) = false := decide_eq_false hc
    go_enter Try.func3, Try.ntmps3
    go_wp2_with (go_at_call 12; refine (c12 s pos depth i _ hs).mono ?_; rintro e w' ⟨rfl, hww⟩; replace hww := hww.symm; subst hww)
    go_ret
    exact ⟨rfl, Below.refl _ _⟩

theorem walk (a0 : ByteArray) (a1 : Int) (a2 : Int) (a3 : Int) (w0 : a0.size ≤ maxLen) (w1 : (Lit.int .i64 a1).wf = true) (w2 : (Lit.int .i64 a2).wf = true) (w3 : (Lit.int .i64 a3).wf = true) (w : World) :
    Calls Try.prog 3 #[.string a0, .int .i64 a1, .int .i64 a2, .int .i64 a3] w fun e w' => e = .returned (.bool true) ∧ Below w.heap.size w w' := by
  have h3 := bounds_i64 w3
  by_cases h : ¬ a0.size ≤ 1048576 ∨ a3 < 0
  · exact away a0 a1 a2 a3 w w0 h
  · obtain ⟨i, rfl⟩ := Int.eq_ofNat_of_zero_le (show 0 ≤ a3 by omega)
    by_cases hc : i + 6 ≤ a0.size ∧ bt a0 i = 92 ∧ bt a0 (i + 1) = 117
    · exact main_yes a0 a1 a2 i w (by omega) hc.1 hc.2.1 hc.2.2
    · exact main_no a0 a1 a2 i w (by omega) (by omega) hc

/-! ### The row's step -/
set_option maxRecDepth 100000 in
theorem lifted (os : Os) (started : os.Started) (H : Type) (enc : TypeId × Value → H) :
    ReturnsInHanded {} Try.checked os 3 .any (Rows.fnHex4MatchesDigitModelSpec.pre6 enc Try.prog Try.f3 Rows.fnHex4MatchesDigitModelRow.domain false) (Rows.fnHex4MatchesDigitModelSpec.post enc Try.prog Try.f3 false true false false) := by
  refine returnsInHanded_of_change (C := Try.checked) own started (by kernel_rfl) Try.func3
    (ChangeSpec.witness6 (enc := enc) (C := Try.checked) false ⟨#[], #[.string ByteArray.empty, .int .i64 0, .int .i64 0, .int .i64 0], []⟩ 8 (by kernel_rfl) (by kernel_rfl) (by kernel_rfl) (by kernel_rfl)) ?_
  intro W base args ds gs before hval0 hW hcnd _
  have hval : ∀ (j : Nat) t v, Try.f3.params[j]? = some t → args[j]? = some v → Value.okWide Try.prog W .any base t v := hval0
  have hW' := hW
  obtain ⟨p, q, hA0, hV, rfl, hfz, hnd⟩ := hW
  have hA : DataW.TrodAll enc Try.prog W 0 (fun _ => true) true Try.f3.params.toList args.toList ds p := hA0
  rw [Try.params3] at hA hval
  obtain ⟨v0, vs0, d0, ds0, p0, q0, hargs, rfl, rfl, h0, r0⟩ := trodAll_cons hA
  obtain ⟨v1, vs1, d1, ds1, p1, q1, rfl, rfl, rfl, h1, r1⟩ := trodAll_cons r0
  obtain ⟨v2, vs2, d2, ds2, p2, q2, rfl, rfl, rfl, h2, r2⟩ := trodAll_cons r1
  obtain ⟨v3, vs3, d3, ds3, p3, q3, rfl, rfl, rfl, h3, r3⟩ := trodAll_cons r2
  obtain ⟨rfl, rfl, rfl⟩ := trodAll_nil r3
  obtain rfl : args = #[v0, v1, v2, v3] := by cases args; simp_all
  obtain ⟨rfl, rfl⟩ := trodVars_none hV
  obtain ⟨a0, rfl, rfl, rfl, w0⟩ := open_string Try.underlying9 (hval 0 9 v0 rfl rfl) h0
  obtain ⟨a1, rfl, rfl, rfl, w1⟩ := open_int Try.underlying3 (hval 1 3 v1 rfl rfl) h1
  obtain ⟨a2, rfl, rfl, rfl, w2⟩ := open_int Try.underlying3 (hval 2 3 v2 rfl rfl) h2
  obtain ⟨a3, rfl, rfl, rfl, w3⟩ := open_int Try.underlying3 (hval 3 3 v3 rfl rfl) h3
  clear hA0 hval0
  simp only [List.append_nil] at hW'
  refine (walk a0 a1 a2 a3 w0 w1 w2 w3 W).mono fun e W' ⟨he, hg⟩ => ?_
  subst he
  exact ⟨_, rfl, _, _, _, [], [], [], hW', trodAll_mk1 (shut_bool Try.underlying4 _), (trodAll_cons_mk (shut_string Try.underlying9 w0) (trodAll_cons_mk (shut_int Try.underlying3 w1) (trodAll_cons_mk (shut_int Try.underlying3 w2) (trodAll_cons_mk (shut_int Try.underlying3 w3) trodAll_mk0)))), rfl, hg.frame _, fun h => by cases h⟩

theorem closed : joinedFacts Try.prog 3 Try.f3 Rows.fnHex4MatchesDigitModelSpec Rows.fnHex4MatchesDigitModelRow = true := by
  unfold joinedFacts
  rw [head.mayEnter, head.liftsFinal, head.make]
  kernel_rfl

theorem over : Rows.fnHex4MatchesDigitModelRow.holds Try.pinned (OpenSpec.ofChange Rows.fnHex4MatchesDigitModelSpec) :=
  OpenClaim.holds_of_wide 3 Try.f3 rfl rfl rfl rfl rfl rfl rfl ⟨rfl, rfl, rfl, rfl, rfl⟩ rfl rfl rfl rfl rfl (by kernel_rfl) Try.func3 closed
    (of_decide_eq_true (by kernel_rfl)) (by unfold Func.isWrapper; first | (rw [if_pos (by decide +kernel)]; kernel_rfl) | (rw [if_neg (by decide +kernel)]; exact ⟨rfl, rfl⟩))
    (fun os started H enc _ => lifted os started H enc)

/-- The statement. -/
theorem proved : Rows.FnHex4MatchesDigitModelSaid :=
  over
end Go.Proofs.Qxb6601728a.fnHex4MatchesDigitModel
