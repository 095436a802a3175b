/- A proof of one law of this seat: the walk is ours, the frame is the shell's. -/
import Derived.Test.Qxb6601728aRows
import Derived.Test.Qxb6601728aHead
import Derived.WalkKit
import Derived.ProofKit
import Derived.OpenShut
import Derived.ShutString
import Derived.Test.Qxb6601728aHex
import Derived.Below
namespace Go.Proofs.Qxb6601728a.fnHex4RoundTripsFourHexDigits
open Go.ChangeShapes Go.WideShapes Go.ChangeAt Go.RowKit
open Go.ChangeMaps (open_string shut_string)
set_option linter.unusedVariables false

theorem own : ownKnob Try.prog.godebug = none := by kernel_rfl

open Go.Proofs.Qxb6601728a.hex

theorem bt_left (a b : ByteArray) (j : Nat) (h : j < a.size) : bt (a ++ b) j = bt a j := by
  rw [← bt_get (a ++ b) j (by rw [ByteArray.size_append]; omega), ← bt_get a j h, ByteArray.getElem_append_left h]
theorem bt_right (a b : ByteArray) (j : Nat) (h : j < b.size) : bt (a ++ b) (a.size + j) = bt b j := by
  rw [← bt_get (a ++ b) (a.size + j) (by rw [ByteArray.size_append]; omega), ← bt_get b j h, ByteArray.getElem_append_right (by omega)]
  simp

def nib (v : Int) : Nat → Int
  | 0 => v / 4096 % 16
  | 1 => v / 256 % 16
  | 2 => v / 16 % 16
  | _ => v % 16

/-- The text so far: what precedes, backslash, u, k digits. -/
structure Tx (p : ByteArray) (v : Int) (k : Nat) (T : ByteArray) : Prop where
  size : T.size = p.size + 2 + k
  b0 : bt T p.size = 92
  b1 : bt T (p.size + 1) = 117
  dg : ∀ j, j < k → hx (bt T (p.size + 2 + j)) = nib v j

theorem Tx.start (p : ByteArray) (v : Int) : Tx p v 0 (p ++ ⟨#[92, 117]⟩) := by
  refine ⟨by rw [ByteArray.size_append]; rfl, ?_, ?_, fun j hj => by omega⟩
  · exact bt_right p ⟨#[92, 117]⟩ 0 (by decide)
  · exact bt_right p ⟨#[92, 117]⟩ 1 (by decide)

theorem Tx.push {p : ByteArray} {v : Int} {k : Nat} {T d : ByteArray} (h : Tx p v k T) (hd : d.size = 1) (hv : hx (bt d 0) = nib v k) : Tx p v (k + 1) (T ++ d) := by
  have hs := h.size
  refine ⟨by rw [ByteArray.size_append]; omega, ?_, ?_, fun j hj => ?_⟩
  · rw [bt_left T d _ (by omega)]; exact h.b0
  · rw [bt_left T d _ (by omega)]; exact h.b1
  · by_cases e : j = k
    · subst e
      have := bt_right T d 0 (by omega)
      rw [hs, Nat.add_zero] at this
      rw [this]; exact hv
    · rw [bt_left T d _ (by omega)]; exact h.dg j (by omega)

theorem Tx.reads {p : ByteArray} {v : Int} {T : ByteArray} (h : Tx p v 4 T) (s : ByteArray) (h0 : 0 ≤ v) (h1 : v ≤ 65535) : h4 (T ++ s) p.size = v := by
  have hs := h.size
  have e : ∀ j, j < 4 → hx (bt (T ++ s) (p.size + 2 + j)) = nib v j := fun j hj => by rw [bt_left T s _ (by omega)]; exact h.dg j hj
  have e0 := e 0 (by omega)
  have e1 := e 1 (by omega)
  have e2 := e 2 (by omega)
  have e3 := e 3 (by omega)
  simp only [nib] at e0 e1 e2 e3
  unfold h4
  rw [if_pos ⟨by rw [ByteArray.size_append]; omega, by rw [bt_left T s _ (by omega)]; exact h.b0, by rw [bt_left T s _ (by omega)]; exact h.b1⟩]
  unfold val
  rw [if_pos ⟨by rw [e0]; omega, by rw [e1]; omega, by rw [e2]; omega, by rw [e3]; omega⟩]
  simp only [rd]
  rw [e0, e1, e2, e3]
  omega

theorem and15 (q : Int) (h0 : 0 ≤ q) (h1 : q ≤ 65535) : bits .and .i64 q 15 = q % 16 := by
  obtain ⟨A, rfl⟩ := Int.eq_ofNat_of_zero_le h0
  have e : A &&& 15 = A % 16 := Nat.and_two_pow_sub_one_eq_mod A 4
  have o : ∀ n : Nat, n < 18446744073709551616 → (BitVec.ofInt 64 (n : Int)).toNat = n := by
    intro n hn
    rw [BitVec.ofInt_natCast, BitVec.toNat_ofNat]; exact Nat.mod_eq_of_lt hn
  show IntKind.i64.wrap ((BitVec.ofInt 64 (A : Int) &&& BitVec.ofInt 64 ((15 : Nat) : Int)).toNat : Int) = _
  rw [BitVec.toNat_and, o A (by omega), o 15 (by omega), e, IntKind.wrap_i64]
  omega

def UP : ByteArray := ⟨#[48, 49, 50, 51, 52, 53, 54, 55, 56, 57, 65, 66, 67, 68, 69, 70]⟩
def LO : ByteArray := ⟨#[48, 49, 50, 51, 52, 53, 54, 55, 56, 57, 97, 98, 99, 100, 101, 102]⟩
theorem up_hx : ∀ n, n < 16 → hx (bt UP n) = (n : Int) := by decide
theorem lo_hx : ∀ n, n < 16 → hx (bt LO n) = (n : Int) := by decide

/-- One digit cut out of a row of sixteen. -/
theorem cut16 (t : ByteArray) (ht : t.size = 16) (n : Nat) (hn : n < 16) (hv : hx (bt t n) = (n : Int)) :
    ∃ d : ByteArray, (∀ w, (Instr.slice 9 (.string t) (some (.int .i64 (n : Int))) (some (.int .i64 ((n : Int) + 1))) none).run Try.prog w = .ok (.string d) w) ∧ d.size = 1 ∧ hx (bt d 0) = (n : Int) := by
  refine ⟨t.extract n (n + 1), fun w => ?_, ?_, ?_⟩
  · have := run_slice_string (P := Try.prog) w 9 t .i64 .i64 (n : Int) ((n : Int) + 1) Try.underlying9 (by omega) (by omega) (by omega)
    rw [this]
    rfl
  · rw [ByteArray.size_extract]; omega
  · rw [bt_extract t n (n + 1) 0 (by omega) (by omega)]; exact hv

/-- A round of the law's loop: what the walk wants of the digit. -/
theorem digit (v q : Int) (k : Nat) (h0 : 0 ≤ q) (h1 : q ≤ 65535) (hq : nib v k = q % 16) :
    ∃ (n : Nat) (dU dL : ByteArray), n < 16 ∧ bits .and .i64 q 15 = (n : Int) ∧ (dU.size = 1 ∧ hx (bt dU 0) = nib v k) ∧ (dL.size = 1 ∧ hx (bt dL 0) = nib v k) ∧
      (∀ w, (Instr.slice 9 (.string ⟨#[48, 49, 50, 51, 52, 53, 54, 55, 56, 57, 65, 66, 67, 68, 69, 70]⟩) (some (.int .i64 (n : Int))) (some (.int .i64 ((n : Int) + 1))) none).run Try.prog w = .ok (.string dU) w) ∧
      (∀ w, (Instr.slice 9 (.string ⟨#[48, 49, 50, 51, 52, 53, 54, 55, 56, 57, 97, 98, 99, 100, 101, 102]⟩) (some (.int .i64 (n : Int))) (some (.int .i64 ((n : Int) + 1))) none).run Try.prog w = .ok (.string dL) w) := by
  obtain ⟨n, hn⟩ := Int.eq_ofNat_of_zero_le (show 0 ≤ q % 16 by omega)
  have hl : n < 16 := by omega
  obtain ⟨dU, a1, a2, a3⟩ := cut16 UP (by decide) n hl (up_hx n hl)
  obtain ⟨dL, b1, b2, b3⟩ := cut16 LO (by decide) n hl (lo_hx n hl)
  exact ⟨n, dU, dL, hl, by rw [and15 q h0 h1, hn], ⟨a2, by rw [a3, hq, hn]⟩, ⟨b2, by rw [b3, hq, hn]⟩, a1, b1⟩

theorem c15 (p s : ByteArray) (pos depth v m : Int) (w : World) (hp : p.size ≤ maxLen) (hs : s.size ≤ maxLen) :
    Calls Try.prog 15 #[.string p, .string s, .int .i64 pos, .int .i64 depth, .int .u16 v, .int .u8 m] w fun e w' => e = .returned (.bool (decide (p.size + s.size ≤ 1048576))) ∧ w' = w := by
  unfold maxLen at hp hs
  by_cases h1 : p.size ≤ 1048576
  · by_cases h2 : s.size ≤ 1048576
    · by_cases hc : p.size + s.size ≤ 1048576
      · go_enter Try.func15, Try.ntmps15
        go_wp2
        go_ret
        exact ⟨by simp [hc], rfl⟩
      · go_enter Try.func15, Try.ntmps15
        go_wp2
        go_ret
        exact ⟨by simp [hc], rfl⟩
    · have hc : ¬ p.size + s.size ≤ 1048576 := by omega
      go_enter Try.func15, Try.ntmps15
      go_wp2
      go_ret
      exact ⟨by simp [hc], rfl⟩
  · have hc : ¬ p.size + s.size ≤ 1048576 := by omega
    go_enter Try.func15, Try.ntmps15
    go_wp2
    go_ret
    exact ⟨by simp [hc], rfl⟩

set_option maxRecDepth 100000 in
set_option maxHeartbeats 1000000 in
theorem main (p s : ByteArray) (pos depth v m : Int) (w : World) (hps : p.size + s.size ≤ 1048576) (v0 : 0 ≤ v) (v1 : v ≤ 65535) (m0 : 0 ≤ m) (m1 : m ≤ 255) :
    Calls Try.prog 4 #[.string p, .string s, .int .i64 pos, .int .i64 depth, .int .u16 v, .int .u8 m] w fun e w' => e = .returned (.bool true) ∧ Below w.heap.size w w' := by
  have hd1 : decide (p.size + s.size ≤ 1048576) = true := decide_eq_true hps
  go_enter Try.func4, Try.ntmps4
  go_wp2_with (go_at_call 15; refine (c15 p s pos depth v m _ (by unfold maxLen; omega) (by unfold maxLen; omega)).mono ?_; rintro e w' ⟨rfl, hww⟩; replace hww := hww.symm; subst hww)
  go_loop [13, 14] (fun t i => ∃ (k : Nat) (T : ByteArray), k ≤ 4 ∧ i = .int .i64 (k : Int) ∧ t = .string T ∧ Tx p v k T) (fun _ i => (4 - intOf i).toNat)
  case atStart => exact ⟨0, _, by omega, rfl, rfl, Tx.start p v⟩
  case round =>
    obtain ⟨k, T, hk, rfl, rfl, ht⟩ := hrel
    have hsz := ht.size
    have HT := hide ht
    clear ht
    match k, hk with
    | 0, _ =>
      obtain ⟨n, dU, dL, hn, hb, hU, hL, eU, eL⟩ := digit v (v / 4096) 0 (by omega) (by omega) (by simp only [nib]; try omega)
      have HU := hide hU
      have HL := hide hL
      have zU := hU.1
      have zL := hL.1
      clear hU hL
      go_wp2
      · exact ⟨⟨1, _, by omega, rfl, rfl, (unhide HT).push (unhide HU).1 (unhide HU).2⟩, by decide⟩
      · exact ⟨⟨1, _, by omega, rfl, rfl, (unhide HT).push (unhide HL).1 (unhide HL).2⟩, by decide⟩
    | 1, _ =>
      obtain ⟨n, dU, dL, hn, hb, hU, hL, eU, eL⟩ := digit v (v / 256) 1 (by omega) (by omega) (by simp only [nib]; try omega)
      have HU := hide hU
      have HL := hide hL
      have zU := hU.1
      have zL := hL.1
      clear hU hL
      go_wp2
      · exact ⟨⟨2, _, by omega, rfl, rfl, (unhide HT).push (unhide HU).1 (unhide HU).2⟩, by decide⟩
      · exact ⟨⟨2, _, by omega, rfl, rfl, (unhide HT).push (unhide HL).1 (unhide HL).2⟩, by decide⟩
    | 2, _ =>
      obtain ⟨n, dU, dL, hn, hb, hU, hL, eU, eL⟩ := digit v (v / 16) 2 (by omega) (by omega) (by simp only [nib]; try omega)
      have HU := hide hU
      have HL := hide hL
      have zU := hU.1
      have zL := hL.1
      clear hU hL
      go_wp2
      · exact ⟨⟨3, _, by omega, rfl, rfl, (unhide HT).push (unhide HU).1 (unhide HU).2⟩, by decide⟩
      · exact ⟨⟨3, _, by omega, rfl, rfl, (unhide HT).push (unhide HL).1 (unhide HL).2⟩, by decide⟩
    | 3, _ =>
      obtain ⟨n, dU, dL, hn, hb, hU, hL, eU, eL⟩ := digit v (v) 3 (by omega) (by omega) (by simp only [nib]; try omega)
      have HU := hide hU
      have HL := hide hL
      have zU := hU.1
      have zL := hL.1
      clear hU hL
      go_wp2
      · exact ⟨⟨4, _, by omega, rfl, rfl, (unhide HT).push (unhide HU).1 (unhide HU).2⟩, by decide⟩
      · exact ⟨⟨4, _, by omega, rfl, rfl, (unhide HT).push (unhide HL).1 (unhide HL).2⟩, by decide⟩
    | 4, _ =>
      have hv := (unhide HT).reads s v0 v1
      have H14 := hide (c14 (T ++ s) pos depth p.size w (by rw [ByteArray.size_append]; omega) (by omega))
      rw [hv] at H14
      clear hv
      go_wp2_with fail
      refine (unhide H14).mono ?_
      rintro e w1 ⟨rfl, hb⟩
      have HB := hide hb
      clear hb
      go_wp2
      go_ret
      exact ⟨by simp, unhide HB⟩

theorem away (p s : ByteArray) (pos depth v m : Int) (w : World) (hp : p.size ≤ maxLen) (hs : s.size ≤ maxLen) (hps : ¬ p.size + s.size ≤ 1048576) :
    Calls Try.prog 4 #[.string p, .string s, .int .i64 pos, .int .i64 depth, .int .u16 v, .int .u8 m] w fun e w' => e = .returned (.bool true) ∧ Below w.heap.size w w' := by
  have hd1 : decide (p.size + s.size ≤ 1048576) = false := decide_eq_false hps
  go_enter Try.func4, Try.ntmps4
  go_wp2_with (go_at_call 15; refine (c15 p s pos depth v m _ hp hs).mono ?_; rintro e w' ⟨rfl, hww⟩; replace hww := hww.symm; subst hww)
  go_ret
  exact ⟨rfl, Below.refl _ _⟩

theorem walk (a0 : ByteArray) (a1 : ByteArray) (a2 : Int) (a3 : Int) (a4 : Int) (a5 : Int) (w0 : a0.size ≤ maxLen) (w1 : a1.size ≤ maxLen) (w2 : (Lit.int .i64 a2).wf = true) (w3 : (Lit.int .i64 a3).wf = true) (w4 : (Lit.int .u16 a4).wf = true) (w5 : (Lit.int .u8 a5).wf = true) (w : World) :
    Calls Try.prog 4 #[.string a0, .string a1, .int .i64 a2, .int .i64 a3, .int .u16 a4, .int .u8 a5] w fun e w' => e = .returned (.bool true) ∧ Below w.heap.size w w' := by
  have h4 := bounds_u16 w4
  have h5 := bounds_u8 w5
  by_cases hps : a0.size + a1.size ≤ 1048576
  · exact main a0 a1 a2 a3 a4 a5 w hps h4.1 h4.2 h5.1 h5.2
  · exact away a0 a1 a2 a3 a4 a5 w w0 w1 hps

/-! ### The row's step -/
set_option maxRecDepth 100000 in
theorem lifted (os : Os) (started : os.Started) (H : Type) (enc : TypeId × Value → H) :
    ReturnsInHanded {} Try.checked os 4 .any (Rows.fnHex4RoundTripsFourHexDigitsSpec.pre6 enc Try.prog Try.f4 Rows.fnHex4RoundTripsFourHexDigitsRow.domain false) (Rows.fnHex4RoundTripsFourHexDigitsSpec.post enc Try.prog Try.f4 false true false false) := by
  refine returnsInHanded_of_change (C := Try.checked) own started (by kernel_rfl) Try.func4
    (ChangeSpec.witness6 (enc := enc) (C := Try.checked) false ⟨#[], #[.string ByteArray.empty, .string ByteArray.empty, .int .i64 0, .int .i64 0, .int .u16 0, .int .u8 0], []⟩ 8 (by kernel_rfl) (by kernel_rfl) (by kernel_rfl) (by kernel_rfl)) ?_
  intro W base args ds gs before hval0 hW hcnd _
  have hval : ∀ (j : Nat) t v, Try.f4.params[j]? = some t → args[j]? = some v → Value.okWide Try.prog W .any base t v := hval0
  have hW' := hW
  obtain ⟨p, q, hA0, hV, rfl, hfz, hnd⟩ := hW
  have hA : DataW.TrodAll enc Try.prog W 0 (fun _ => true) true Try.f4.params.toList args.toList ds p := hA0
  rw [Try.params4] at hA hval
  obtain ⟨v0, vs0, d0, ds0, p0, q0, hargs, rfl, rfl, h0, r0⟩ := trodAll_cons hA
  obtain ⟨v1, vs1, d1, ds1, p1, q1, rfl, rfl, rfl, h1, r1⟩ := trodAll_cons r0
  obtain ⟨v2, vs2, d2, ds2, p2, q2, rfl, rfl, rfl, h2, r2⟩ := trodAll_cons r1
  obtain ⟨v3, vs3, d3, ds3, p3, q3, rfl, rfl, rfl, h3, r3⟩ := trodAll_cons r2
  obtain ⟨v4, vs4, d4, ds4, p4, q4, rfl, rfl, rfl, h4, r4⟩ := trodAll_cons r3
  obtain ⟨v5, vs5, d5, ds5, p5, q5, rfl, rfl, rfl, h5, r5⟩ := trodAll_cons r4
  obtain ⟨rfl, rfl, rfl⟩ := trodAll_nil r5
  obtain rfl : args = #[v0, v1, v2, v3, v4, v5] := by cases args; simp_all
  obtain ⟨rfl, rfl⟩ := trodVars_none hV
  obtain ⟨a0, rfl, rfl, rfl, w0⟩ := open_string Try.underlying9 (hval 0 9 v0 rfl rfl) h0
  obtain ⟨a1, rfl, rfl, rfl, w1⟩ := open_string Try.underlying9 (hval 1 9 v1 rfl rfl) h1
  obtain ⟨a2, rfl, rfl, rfl, w2⟩ := open_int Try.underlying3 (hval 2 3 v2 rfl rfl) h2
  obtain ⟨a3, rfl, rfl, rfl, w3⟩ := open_int Try.underlying3 (hval 3 3 v3 rfl rfl) h3
  obtain ⟨a4, rfl, rfl, rfl, w4⟩ := open_int Try.underlying26 (hval 4 26 v4 rfl rfl) h4
  obtain ⟨a5, rfl, rfl, rfl, w5⟩ := open_int Try.underlying5 (hval 5 5 v5 rfl rfl) h5
  clear hA0 hval0
  simp only [List.append_nil] at hW'
  refine (walk a0 a1 a2 a3 a4 a5 w0 w1 w2 w3 w4 w5 W).mono fun e W' ⟨he, hg⟩ => ?_
  subst he
  exact ⟨_, rfl, _, _, _, [], [], [], hW', trodAll_mk1 (shut_bool Try.underlying4 _), (trodAll_cons_mk (shut_string Try.underlying9 w0) (trodAll_cons_mk (shut_string Try.underlying9 w1) (trodAll_cons_mk (shut_int Try.underlying3 w2) (trodAll_cons_mk (shut_int Try.underlying3 w3) (trodAll_cons_mk (shut_int Try.underlying26 w4) (trodAll_cons_mk (shut_int Try.underlying5 w5) trodAll_mk0)))))), rfl, hg.frame _, fun h => by cases h⟩

theorem closed : joinedFacts Try.prog 4 Try.f4 Rows.fnHex4RoundTripsFourHexDigitsSpec Rows.fnHex4RoundTripsFourHexDigitsRow = true := by
  unfold joinedFacts
  rw [head.mayEnter, head.liftsFinal, head.make]
  kernel_rfl

theorem over : Rows.fnHex4RoundTripsFourHexDigitsRow.holds Try.pinned (OpenSpec.ofChange Rows.fnHex4RoundTripsFourHexDigitsSpec) :=
  OpenClaim.holds_of_wide 4 Try.f4 rfl rfl rfl rfl rfl rfl rfl ⟨rfl, rfl, rfl, rfl, rfl⟩ rfl rfl rfl rfl rfl (by kernel_rfl) Try.func4 closed
    (of_decide_eq_true (by kernel_rfl)) (by unfold Func.isWrapper; first | (rw [if_pos (by decide +kernel)]; kernel_rfl) | (rw [if_neg (by decide +kernel)]; exact ⟨rfl, rfl⟩))
    (fun os started H enc _ => lifted os started H enc)

/-- The statement. -/
theorem proved : Rows.FnHex4RoundTripsFourHexDigitsSaid :=
  over
end Go.Proofs.Qxb6601728a.fnHex4RoundTripsFourHexDigits
