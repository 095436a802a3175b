/- A proof of one law of this seat: the walk is ours, the frame is the shell's. -/
import Derived.Test.Qxb6600066aRows
import Derived.Test.Qxb6600066aHead
import Derived.WalkKit
import Derived.ProofKit
import Derived.OpenShut
import Derived.ShutString
namespace Go.Proofs.Qxb6600066a.fnWireTypesIsASmallNonEmptySet
open Go.ChangeShapes Go.WideShapes Go.ChangeAt Go.RowKit
open Go.ChangeMaps (open_string shut_string)
set_option linter.unusedVariables false

theorem own : ownKnob Try.prog.godebug = none := by kernel_rfl

theorem hide {p : Prop} (h : p) : Hid p := h
theorem unhide {p : Prop} (h : Hid p) : p := h

def wt (t : Int) (rep map : Bool) : Int :=
  if map then 4 else if t = 1 ∨ t = 2 ∨ t = 3 then (if rep then 5 else 1) else if t = 6 then 2 else 4

set_option maxHeartbeats 400000 in
theorem c30 (b : Nat) (t : Int) (rep map : Bool) (w : World) (h2 : w.cell? ⟨b, 2, none⟩ = some (.int .u8 t)) (h4 : w.cell? ⟨b, 4, none⟩ = some (.bool rep)) (h5 : w.cell? ⟨b, 5, none⟩ = some (.bool map)) :
    Calls Try.prog 30 #[.pointer (some ⟨b, 0, none⟩)] w fun e w' => e = .returned (.int .u8 (wt t rep map)) ∧ w' = w := by
  by_cases h : t = 1 ∨ t = 2 ∨ t = 3
  · cases map <;> cases rep <;> rcases h with rfl | rfl | rfl
    all_goals
      go_enter Try.func30, Try.ntmps30
      go_wp2
      go_ret
      exact ⟨rfl, rfl⟩
  · have e1 : (t == 1) = false := by simp; omega
    have e2 : (t == 2) = false := by simp; omega
    have e3 : (t == 3) = false := by simp; omega
    by_cases h6 : t = 6
    · subst h6
      cases map
      all_goals
        go_enter Try.func30, Try.ntmps30
        go_wp2
        go_ret
        exact ⟨rfl, rfl⟩
    · have e6 : (t == 6) = false := by simp; omega
      have ee : wt t rep map = 4 := by simp [wt, h, h6]
      rw [ee]
      clear ee h h6
      cases map
      all_goals
        go_enter Try.func30, Try.ntmps30
        go_wp2
        go_ret
        exact ⟨rfl, rfl⟩

set_option maxHeartbeats 400000 in
theorem c25 (b : Nat) (t : Int) (rep map : Bool) (w : World) (h2 : w.cell? ⟨b, 2, none⟩ = some (.int .u8 t)) (h4 : w.cell? ⟨b, 4, none⟩ = some (.bool rep)) (h5 : w.cell? ⟨b, 5, none⟩ = some (.bool map)) :
    Calls Try.prog 25 #[.pointer (some ⟨b, 0, none⟩)] w fun e w' => e = .returned (.int .u8 (wt t rep map)) ∧ w' = w := by
  go_enter Try.func25, Try.ntmps25
  go_wp2_with (go_at_call 30; refine (c30 b t rep map _ (by assumption) (by assumption) (by assumption)).mono ?_; rintro e w' ⟨rfl, rfl⟩)
  go_ret
  exact ⟨rfl, rfl⟩



set_option maxHeartbeats 400000 in
theorem core (v n1 n2 n3 : Int) (a0 : Int) (a1 a2 : Bool) (w : World) (hw : Hid (wt a0 a1 a2 = v)) (an : bits .andNot .u8 v 7 = 0) (hv : (v == 0) = false)
    (s1 : ((bits .and .u8 v 1 != 0) = true ∧ n1 = 1) ∨ ((bits .and .u8 v 1 != 0) = false ∧ n1 = 0))
    (s2 : ((bits .and .u8 v 2 != 0) = true ∧ n2 = n1 + 1) ∨ ((bits .and .u8 v 2 != 0) = false ∧ n2 = n1))
    (s3 : ((bits .and .u8 v 4 != 0) = true ∧ n3 = n2 + 1) ∨ ((bits .and .u8 v 4 != 0) = false ∧ n3 = n2))
    (b1 : 0 ≤ n1 ∧ n1 ≤ 3) (b2 : 0 ≤ n2 ∧ n2 ≤ 3)
    (fin : (a2 = true ∧ (n3 == 1) = true) ∨ (a2 = false ∧ a1 = false ∧ (n3 == 1) = true) ∨
      (a2 = false ∧ a1 = true ∧ (a0 == 1) = true ∧ (n3 == 2) = true ∧ (v == 5) = true) ∨
      (a2 = false ∧ a1 = true ∧ (a0 == 1) = false ∧ (a0 == 2) = true ∧ (n3 == 2) = true ∧ (v == 5) = true) ∨
      (a2 = false ∧ a1 = true ∧ (a0 == 1) = false ∧ (a0 == 2) = false ∧ (a0 == 3) = true ∧ (n3 == 2) = true ∧ (v == 5) = true) ∨
      (a2 = false ∧ a1 = true ∧ (a0 == 1) = false ∧ (a0 == 2) = false ∧ (a0 == 3) = false ∧ (n3 == 1) = true)) :
    Calls Try.prog 10 #[.int .u8 a0, .bool a1, .bool a2] w fun e w' => e = .returned (.bool true) ∧ Grown w w' := by
  have S1 := hide s1
  have S2 := hide s2
  have S3 := hide s3
  have F := hide fin
  clear s1 s2 s3 fin
  obtain ⟨b1a, b1b⟩ := b1
  obtain ⟨b2a, b2b⟩ := b2
  go_enter Try.func10, Try.ntmps10
  go_wp2_with (go_at_call 25; refine (c25 _ a0 a1 a2 _ (by simp) (by simp) (by simp)).mono ?_; rintro e w' ⟨rfl, rfl⟩; rw [unhide hw])
  go_loop [9, 10] (fun n b => (b = .int .u64 0 ∧ n = .int .i64 0) ∨ (b = .int .u64 1 ∧ n = .int .i64 n1) ∨ (b = .int .u64 2 ∧ n = .int .i64 n2) ∨ (b = .int .u64 3 ∧ n = .int .i64 n3)) (fun _ b => (3 - intOf b).toNat)
  case atStart => exact .inl ⟨rfl, rfl⟩
  case round =>
    rcases hrel with ⟨rfl, rfl⟩ | ⟨rfl, rfl⟩ | ⟨rfl, rfl⟩ | ⟨rfl, rfl⟩
    · rcases unhide S1 with ⟨h, rfl⟩ | ⟨h, rfl⟩
      all_goals
        go_wp2
        exact ⟨.inr (.inl ⟨rfl, rfl⟩), by decide⟩
    · rcases unhide S2 with ⟨h, rfl⟩ | ⟨h, rfl⟩
      all_goals
        go_wp2
        exact ⟨.inr (.inr (.inl ⟨rfl, rfl⟩)), by decide⟩
    · rcases unhide S3 with ⟨h, rfl⟩ | ⟨h, rfl⟩
      all_goals
        go_wp2
        exact ⟨.inr (.inr (.inr ⟨rfl, rfl⟩)), by decide⟩
    · rcases unhide F with ⟨rfl, h⟩ | ⟨rfl, rfl, h⟩ | ⟨rfl, rfl, h1, h2, h3⟩ | ⟨rfl, rfl, h1, h2, h3, h4⟩ | ⟨rfl, rfl, h1, h2, h3, h4, h5⟩ | ⟨rfl, rfl, h1, h2, h3, h4⟩
      all_goals
        go_wp2
        go_ret
        exact ⟨rfl, by repeat (first | exact Grown.refl _ | apply Grown.drew | apply Grown.alloc)⟩

theorem walk (a0 : Int) (a1 : Bool) (a2 : Bool) (w0 : (Lit.int .u8 a0).wf = true) (w : World) :
    Calls Try.prog 10 #[.int .u8 a0, .bool a1, .bool a2] w fun e w' => e = .returned (.bool true) ∧ Grown w w' := by
  cases a2
  · by_cases h : a0 = 1 ∨ a0 = 2 ∨ a0 = 3
    · cases a1
      · exact core 1 1 1 1 a0 false false w (hide (by simp [wt, h])) (by decide) (by decide) (by decide) (by decide) (by decide) (by decide) (by decide) (.inr (.inl ⟨rfl, rfl, by decide⟩))
      · refine core 5 1 1 2 a0 true false w (hide (by simp [wt, h])) (by decide) (by decide) (by decide) (by decide) (by decide) (by decide) (by decide) ?_
        rcases h with rfl | rfl | rfl <;> decide
    · have e1 : (a0 == 1) = false := by simp; omega
      have e2 : (a0 == 2) = false := by simp; omega
      have e3 : (a0 == 3) = false := by simp; omega
      by_cases h6 : a0 = 6
      · subst h6
        cases a1
        · exact core 2 0 1 1 6 false false w (hide (by decide)) (by decide) (by decide) (by decide) (by decide) (by decide) (by decide) (by decide) (by decide)
        · exact core 2 0 1 1 6 true false w (hide (by decide)) (by decide) (by decide) (by decide) (by decide) (by decide) (by decide) (by decide) (by decide)
      · cases a1
        · exact core 4 0 0 1 a0 false false w (hide (by simp [wt, h, h6])) (by decide) (by decide) (by decide) (by decide) (by decide) (by decide) (by decide) (.inr (.inl ⟨rfl, rfl, by decide⟩))
        · exact core 4 0 0 1 a0 true false w (hide (by simp [wt, h, h6])) (by decide) (by decide) (by decide) (by decide) (by decide) (by decide) (by decide) (.inr (.inr (.inr (.inr (.inr ⟨rfl, rfl, e1, e2, e3, by decide⟩)))))
  · exact core 4 0 0 1 a0 a1 true w (hide rfl) (by decide) (by decide) (by decide) (by decide) (by decide) (by decide) (by decide) (.inl ⟨rfl, by decide⟩)

/-! ### The row's step -/
set_option maxRecDepth 100000 in
theorem lifted (os : Os) (started : os.Started) (H : Type) (enc : TypeId × Value → H) :
    ReturnsInHanded {} Try.checked os 10 .any (Rows.fnWireTypesIsASmallNonEmptySetSpec.pre6 enc Try.prog Try.f10 Rows.fnWireTypesIsASmallNonEmptySetRow.domain false) (Rows.fnWireTypesIsASmallNonEmptySetSpec.post enc Try.prog Try.f10 false true false false) := by
  refine returnsInHanded_of_change (C := Try.checked) own started (by kernel_rfl) Try.func10
    (ChangeSpec.witness6 (enc := enc) (C := Try.checked) false ⟨#[], #[.int .u8 0, .bool false, .bool false], []⟩ 8 (by kernel_rfl) (by kernel_rfl) (by kernel_rfl) (by kernel_rfl)) ?_
  intro W base args ds gs before hval0 hW hcnd _
  have hval : ∀ (j : Nat) t v, Try.f10.params[j]? = some t → args[j]? = some v → Value.okWide Try.prog W .any base t v := hval0
  have hW' := hW
  obtain ⟨p, q, hA0, hV, rfl, hfz, hnd⟩ := hW
  have hA : DataW.TrodAll enc Try.prog W 0 (fun _ => true) true Try.f10.params.toList args.toList ds p := hA0
  rw [Try.params10] at hA hval
  obtain ⟨v0, vs0, d0, ds0, p0, q0, hargs, rfl, rfl, h0, r0⟩ := trodAll_cons hA
  obtain ⟨v1, vs1, d1, ds1, p1, q1, rfl, rfl, rfl, h1, r1⟩ := trodAll_cons r0
  obtain ⟨v2, vs2, d2, ds2, p2, q2, rfl, rfl, rfl, h2, r2⟩ := trodAll_cons r1
  obtain ⟨rfl, rfl, rfl⟩ := trodAll_nil r2
  obtain rfl : args = #[v0, v1, v2] := by cases args; simp_all
  obtain ⟨rfl, rfl⟩ := trodVars_none hV
  obtain ⟨a0, rfl, rfl, rfl, w0⟩ := open_int Try.underlying5 (hval 0 5 v0 rfl rfl) h0
  obtain ⟨a1, rfl, rfl, rfl⟩ := open_bool Try.underlying4 (hval 1 4 v1 rfl rfl) h1
  obtain ⟨a2, rfl, rfl, rfl⟩ := open_bool Try.underlying4 (hval 2 4 v2 rfl rfl) h2
  clear hA0 hval0
  simp only [List.append_nil] at hW'
  refine (walk a0 a1 a2 w0 W).mono fun e W' ⟨he, hg⟩ => ?_
  subst he
  exact ⟨_, rfl, post_of_same (pa := []) (pv := []) hW' (fun _ _ _ => (trodAll_cons_mk (shut_bool Try.underlying4 _) trodAll_mk0)) (fun sp _ => (trodAll_cons_mk (shut_int Try.underlying5 w0) (trodAll_cons_mk (shut_bool Try.underlying4 _) (trodAll_cons_mk (shut_bool Try.underlying4 _) trodAll_mk0)))) (fun _ _ => rfl) rfl
    (hg.frame _) hg.2.1 (ok_one (by kernel_rfl) rfl (okWide_bool_mk Try.underlying4 _))⟩

theorem closed : joinedFacts Try.prog 10 Try.f10 Rows.fnWireTypesIsASmallNonEmptySetSpec Rows.fnWireTypesIsASmallNonEmptySetRow = true := by
  unfold joinedFacts
  rw [head.mayEnter, head.liftsFinal, head.make]
  kernel_rfl

theorem over : Rows.fnWireTypesIsASmallNonEmptySetRow.holds Try.pinned (OpenSpec.ofChange Rows.fnWireTypesIsASmallNonEmptySetSpec) :=
  OpenClaim.holds_of_wide 10 Try.f10 rfl rfl rfl rfl rfl rfl rfl ⟨rfl, rfl, rfl, rfl, rfl⟩ rfl rfl rfl rfl rfl (by kernel_rfl) Try.func10 closed
    (of_decide_eq_true (by kernel_rfl)) (by unfold Func.isWrapper; first | (rw [if_pos (by decide +kernel)]; kernel_rfl) | (rw [if_neg (by decide +kernel)]; exact ⟨rfl, rfl⟩))
    (fun os started H enc _ => lifted os started H enc)

/-- The statement. -/
theorem proved : Rows.FnWireTypesIsASmallNonEmptySetSaid :=
  over
end Go.Proofs.Qxb6600066a.fnWireTypesIsASmallNonEmptySet
