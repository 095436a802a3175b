/- A proof of one law of this seat: the walk is ours, the frame is the shell's. -/
import Derived.Test.Qxb6600066aRows
import Derived.Test.Qxb6600066aHead
import Derived.WalkKit
import Derived.ProofKit
import Derived.OpenShut
import Derived.ShutString
import Derived.ChangeOld
import Derived.Below
import Derived.Test.Qxb6600066aClone
import Derived.Test.Qxb6600066aChk
import Derived.Test.Qxb6600066aNumAuto
import Derived.Test.Qxb6600066aAuto
namespace Go.Proofs.Qxb6600066a.fnCheckNumberAgreesWithJSONAutomaton
open Go.ChangeShapes Go.WideShapes Go.ChangeAt Go.RowKit
open Go.ChangeMaps (open_string shut_string)
set_option linter.unusedVariables false

theorem own : ownKnob Try.prog.godebug = none := by kernel_rfl
theorem laidOut : laidOutB Try.prog = true := by kernel_rfl

/-- WHAT THE WALK IS TOLD OF A SLICE OF INTEGERS THAT CAME IN: it is nil; or it leads to a row of 'cap' cells, the numbers 'zs' (the first 'len' are its elements, the rest its spare room), each fitting its kind. -/
def IsRow (k : IntKind) (w : World) (a : Option Addr) (len cap : Nat) (zs : List Int) : Prop :=
  (a = none ∧ len = 0 ∧ cap = 0 ∧ zs = []) ∨
  ∃ x, a = some x ∧ len ≤ cap ∧ cap ≤ maxLen ∧ zs.length = cap ∧ (∀ i, i < zs.length → w.cell? (x.add i) = some (.int k (zs.getD i 0))) ∧ ∀ n ∈ zs, (Lit.int k n).wf = true

open Go.Proofs.Qxb6600066a.mem Go.Proofs.Qxb6600066a.clone Go.Proofs.Qxb6600066a.num Go.Proofs.Qxb6600066a.auto
theorem c11 (a : Option Addr) (len cap : Nat) (i : Int) (w : World) (h : len ≤ maxLen) :
    Calls Try.prog 11 #[.slice a len cap, .int .i64 i] w fun e w' => e = .returned (.bool (decide (len ≤ 1048576))) ∧ w' = w := by
  unfold maxLen at h
  by_cases hc : len ≤ 1048576
  · go_enter Try.func11, Try.ntmps11
    go_wp2
    go_ret
    exact ⟨by simp [hc], rfl⟩
  · go_enter Try.func11, Try.ntmps11
    go_wp2
    go_ret
    exact ⟨by simp [hc], rfl⟩

set_option maxHeartbeats 400000 in
theorem away (a : Option Addr) (len cap : Nat) (i : Int) (w : World) (h : len ≤ maxLen) (hbig : 1048576 < len ∨ i < 0 ∨ len ≤ i) :
    Calls Try.prog 3 #[.slice a len cap, .int .i64 i] w fun e w' => e = .returned (.bool true) ∧ Below w.heap.size w w' := by
  by_cases hc : len ≤ 1048576
  · have hd1 : decide (len ≤ 1048576) = true := decide_eq_true hc
    by_cases h0 : i < 0
    · go_enter Try.func3, Try.ntmps3
      go_wp2_with (go_at_call 11; refine (c11 a len cap i _ h).mono ?_; rintro e w' ⟨rfl, hww⟩; replace hww := hww.symm; subst hww)
      go_ret
      exact ⟨rfl, Below.refl _ _⟩
    · have h1 : (len : Int) ≤ i := by omega
      go_enter Try.func3, Try.ntmps3
      go_wp2_with (go_at_call 11; refine (c11 a len cap i _ h).mono ?_; rintro e w' ⟨rfl, hww⟩; replace hww := hww.symm; subst hww)
      go_ret
      exact ⟨rfl, Below.refl _ _⟩
  · have hd1 : decide (len ≤ 1048576) = false := decide_eq_false hc
    go_enter Try.func3, Try.ntmps3
    go_wp2_with (go_at_call 11; refine (c11 a len cap i _ h).mono ?_; rintro e w' ⟨rfl, hww⟩; replace hww := hww.symm; subst hww)
    go_ret
    exact ⟨rfl, Below.refl _ _⟩

set_option maxHeartbeats 1000000 in
theorem main (f : Nat → Int) (x : Addr) (len cap i : Nat) (w : World) (hlen : len ≤ 1048576) (hi : i < len) (hc : ∀ j, j < len → w.cell? (x.add j) = some (.int .u8 (f j))) :
    Calls Try.prog 3 #[.slice (some x) len cap, .int .i64 (i : Int)] w fun e w' => e = .returned (.bool true) ∧ Below w.heap.size w w' := by
  have HC := hide hc
  clear hc
  have hd1 : decide (len ≤ 1048576) = true := decide_eq_true hlen
  go_enter Try.func3, Try.ntmps3
  go_wp2_with (go_at_call 11; refine (c11 (some x) len cap _ _ (by unfold maxLen; omega)).mono ?_; rintro e w' ⟨rfl, hww⟩; replace hww := hww.symm; subst hww)
  refine (c12 x len cap f w hlen (unhide HC)).mono ?_
  rintro e w1 ⟨rfl, hb1, hs1, hk1⟩
  have HB1 := hide hb1
  have HS : Hid (Src f w1 w.heap.size 0 len) := hide ⟨fun j hj => by rw [Nat.zero_add]; exact hk1.cell j hj⟩
  clear hb1 HC
  have H1 := hide (c13 f w.heap.size 0 len len i w1 hlen hi (unhide HS))
  have H2 := hide (c14 f w.heap.size 0 len len i w1 hlen hi (unhide HS))
  rw [chk_auto i hi] at H2
  generalize chk f len i = r at *
  clear hk1
  go_wp2_with (first | (go_at_call 13; refine (unhide H1).mono ?_; rintro e w' ⟨rfl, hww⟩; replace hww := hww.symm; subst hww) | (go_at_call 14; refine (unhide H2).mono ?_; rintro e w' ⟨rfl, hww⟩; replace hww := hww.symm; subst hww))
  go_ret
  exact ⟨by simp, unhide HB1⟩

theorem walk (a0 : Option Addr) (len0 cap0 : Nat) (z0 : List Int) (a1 : Int) (w : World) (w0 : IsRow .u8 w a0 len0 cap0 z0) (w1 : (Lit.int .i64 a1).wf = true) :
    Calls Try.prog 3 #[.slice a0 len0 cap0, .int .i64 a1] w fun e w' => e = .returned (.bool true) ∧ Below w.heap.size w w' := by
  have hm : len0 ≤ maxLen := by
    rcases w0 with ⟨_, rfl, _⟩ | ⟨x, _, h1, h2, _⟩
    · exact Nat.zero_le _
    · exact Nat.le_trans h1 h2
  by_cases hbig : 1048576 < len0 ∨ a1 < 0 ∨ len0 ≤ a1
  · exact away a0 len0 cap0 a1 w hm hbig
  · obtain ⟨i, rfl⟩ := Int.eq_ofNat_of_zero_le (show 0 ≤ a1 by omega)
    rcases w0 with ⟨h1, h2, h3, _⟩ | ⟨x, rfl, h2, _, h3, h4, _⟩
    · omega
    · exact main (fun j => z0.getD j 0) x len0 cap0 i w (by omega) (by omega) (fun j hj => h4 j (by omega))

/-! ### The row's step -/
set_option maxRecDepth 100000 in
theorem lifted (os : Os) (started : os.Started) (H : Type) (enc : TypeId × Value → H) :
    ReturnsInHanded {} Try.checked os 3 .any (Rows.fnCheckNumberAgreesWithJSONAutomatonSpec.pre6 enc Try.prog Try.f3 Rows.fnCheckNumberAgreesWithJSONAutomatonRow.domain false) (Rows.fnCheckNumberAgreesWithJSONAutomatonSpec.post enc Try.prog Try.f3 false true false false) := by
  refine returnsInHanded_of_change (C := Try.checked) own started (by kernel_rfl) Try.func3
    (ChangeSpec.witness6 (enc := enc) (C := Try.checked) false ⟨#[], #[.slice none 0 0, .int .i64 0], []⟩ 8 (by kernel_rfl) (by kernel_rfl) (by kernel_rfl) (by kernel_rfl)) ?_
  intro W base args ds gs before hval0 hW hcnd _
  have hval : ∀ (j : Nat) t v, Try.f3.params[j]? = some t → args[j]? = some v → Value.okWide Try.prog W .any base t v := hval0
  have hW' := hW
  obtain ⟨p, q, hA0, hV, rfl, hfz, hnd⟩ := hW
  have hA : DataW.TrodAll enc Try.prog W 0 (fun _ => true) true Try.f3.params.toList args.toList ds p := hA0
  rw [Try.params3] at hA hval
  obtain ⟨v0, vs0, d0, ds0, p0, q0, hargs, rfl, rfl, h0, r0⟩ := trodAll_cons hA
  obtain ⟨v1, vs1, d1, ds1, p1, q1, rfl, rfl, rfl, h1, r1⟩ := trodAll_cons r0
  obtain ⟨rfl, rfl, rfl⟩ := trodAll_nil r1
  obtain rfl : args = #[v0, v1] := by cases args; simp_all
  obtain ⟨rfl, rfl⟩ := trodVars_none hV
  obtain ⟨a0, len0, cap0, rfl⟩ := okWide_slice Try.underlying22 (hval 0 22 v0 rfl rfl)
  have k0 := h0
  have lt0 : ∀ x ∈ p0, x.block < W.heap.size := by obtain ⟨m, hm⟩ := k0; exact DataW.trod_lt m _ _ _ hm
  obtain ⟨z0, w0⟩ : ∃ zs, IsRow .u8 W a0 len0 cap0 zs := by
    obtain ⟨fuel, hf⟩ := h0
    rcases open_ints Try.underlying22 Try.underlying5 (by kernel_rfl) hf with ⟨hcs, _⟩ | ⟨x, l, c, zs, hcs, _, hl, hm, hz, _, hcell, hwz⟩
    · simp [Value.cells] at hcs
      obtain ⟨rfl, rfl, rfl⟩ := hcs
      exact ⟨[], .inl ⟨rfl, rfl, rfl, rfl⟩⟩
    · simp [Value.cells] at hcs
      obtain ⟨rfl, rfl, rfl⟩ := hcs
      exact ⟨zs, .inr ⟨_, rfl, hl, hm, by simpa using hz, hcell, hwz⟩⟩
  obtain ⟨a1, rfl, rfl, rfl, w1⟩ := open_int Try.underlying3 (hval 1 3 v1 rfl rfl) h1
  clear hA0 hval0
  refine (walk a0 len0 cap0 z0 a1 W w0 w1).mono fun e W' ⟨he, bel⟩ => ?_
  subst he
  exact ⟨_, rfl, _, _, _, [], _, [], hW', trodAll_mk1 (shut_bool Try.underlying4 _), (trodAll_cons_mk (Below.trod laidOut (by kernel_rfl) (of_decide_eq_true (by kernel_rfl)) k0 bel lt0) (trodAll_cons_mk (shut_int Try.underlying3 w1) trodAll_mk0)), rfl, bel.frame _, fun h => by cases h⟩

theorem closed : joinedFacts Try.prog 3 Try.f3 Rows.fnCheckNumberAgreesWithJSONAutomatonSpec Rows.fnCheckNumberAgreesWithJSONAutomatonRow = true := by
  unfold joinedFacts
  rw [head.mayEnter, head.liftsFinal, head.make]
  kernel_rfl

theorem over : Rows.fnCheckNumberAgreesWithJSONAutomatonRow.holds Try.pinned (OpenSpec.ofChange Rows.fnCheckNumberAgreesWithJSONAutomatonSpec) :=
  OpenClaim.holds_of_wide 3 Try.f3 rfl rfl rfl rfl rfl rfl rfl ⟨rfl, rfl, rfl, rfl, rfl⟩ rfl rfl rfl rfl rfl (by kernel_rfl) Try.func3 closed
    (of_decide_eq_true (by kernel_rfl)) (by unfold Func.isWrapper; first | (rw [if_pos (by decide +kernel)]; kernel_rfl) | (rw [if_neg (by decide +kernel)]; exact ⟨rfl, rfl⟩))
    (fun os started H enc _ => lifted os started H enc)

/-- The statement. -/
theorem proved : Rows.FnCheckNumberAgreesWithJSONAutomatonSaid := over
end Go.Proofs.Qxb6600066a.fnCheckNumberAgreesWithJSONAutomaton
