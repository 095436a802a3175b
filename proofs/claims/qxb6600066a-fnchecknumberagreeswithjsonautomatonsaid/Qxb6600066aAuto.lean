/- The contracts of the automaton's functions: numDigit, numStep, numAccepting, numModel. -/
import Derived.Test.Qxb6600066aMem
import Derived.Test.Qxb6600066aNumAuto
import Derived.Test.Qxb6600066aChk
import Derived.WalkKit
import Derived.ProofKit
import Derived.Below
namespace Go.Proofs.Qxb6600066a.auto
open Go.ChangeShapes Go.WideShapes Go.ChangeAt Go.RowKit Go.Proofs.Qxb6600066a.mem Go.Proofs.Qxb6600066a.num
set_option linter.unusedVariables false

theorem c32 (c : Int) (w : World) : Calls Try.prog 32 #[.int .u8 c] w fun e w' => e = .returned (.bool (dig c)) ∧ w' = w := by
  by_cases h : 48 ≤ c
  · go_enter Try.func32, Try.ntmps32
    go_wp2
    go_ret
    exact ⟨by simp [dig, h], rfl⟩
  · have hd : decide (48 ≤ c) = false := decide_eq_false h
    go_enter Try.func32, Try.ntmps32
    go_wp2
    go_ret
    exact ⟨by simp [dig, hd], rfl⟩

set_option maxHeartbeats 1000000 in
theorem c27_1 (c : Int) (w : World) : Calls Try.prog 27 #[.int .i64 1, .int .u8 c] w fun e w' => e = .returned (.int .i64 (nxt 1 c : Nat)) ∧ w' = w := by
  go_enter Try.func27, Try.ntmps27
  go_wp2_with (go_at_call 32; refine (c32 _ _).mono ?_; rintro e w' ⟨rfl, hww⟩; replace hww := hww.symm; subst hww)
  all_goals go_ret
  all_goals refine ⟨ret_int ?_, rfl⟩
  all_goals simp_all [nxt]
theorem c28_1 (w : World) : Calls Try.prog 28 #[.int .i64 1] w fun e w' => e = .returned (.bool (okst 1)) ∧ w' = w := by
  go_enter Try.func28, Try.ntmps28
  go_wp2
  go_ret
  exact ⟨rfl, rfl⟩
set_option maxHeartbeats 1000000 in
theorem c27_2 (c : Int) (w : World) : Calls Try.prog 27 #[.int .i64 2, .int .u8 c] w fun e w' => e = .returned (.int .i64 (nxt 2 c : Nat)) ∧ w' = w := by
  go_enter Try.func27, Try.ntmps27
  go_wp2_with (go_at_call 32; refine (c32 _ _).mono ?_; rintro e w' ⟨rfl, hww⟩; replace hww := hww.symm; subst hww)
  all_goals go_ret
  all_goals refine ⟨ret_int ?_, rfl⟩
  all_goals simp_all [nxt]
theorem c28_2 (w : World) : Calls Try.prog 28 #[.int .i64 2] w fun e w' => e = .returned (.bool (okst 2)) ∧ w' = w := by
  go_enter Try.func28, Try.ntmps28
  go_wp2
  go_ret
  exact ⟨rfl, rfl⟩
set_option maxHeartbeats 1000000 in
theorem c27_3 (c : Int) (w : World) : Calls Try.prog 27 #[.int .i64 3, .int .u8 c] w fun e w' => e = .returned (.int .i64 (nxt 3 c : Nat)) ∧ w' = w := by
  go_enter Try.func27, Try.ntmps27
  go_wp2_with (go_at_call 32; refine (c32 _ _).mono ?_; rintro e w' ⟨rfl, hww⟩; replace hww := hww.symm; subst hww)
  all_goals go_ret
  all_goals refine ⟨ret_int ?_, rfl⟩
  all_goals simp_all [nxt]
theorem c28_3 (w : World) : Calls Try.prog 28 #[.int .i64 3] w fun e w' => e = .returned (.bool (okst 3)) ∧ w' = w := by
  go_enter Try.func28, Try.ntmps28
  go_wp2
  go_ret
  exact ⟨rfl, rfl⟩
set_option maxHeartbeats 1000000 in
theorem c27_4 (c : Int) (w : World) : Calls Try.prog 27 #[.int .i64 4, .int .u8 c] w fun e w' => e = .returned (.int .i64 (nxt 4 c : Nat)) ∧ w' = w := by
  go_enter Try.func27, Try.ntmps27
  go_wp2_with (go_at_call 32; refine (c32 _ _).mono ?_; rintro e w' ⟨rfl, hww⟩; replace hww := hww.symm; subst hww)
  all_goals go_ret
  all_goals refine ⟨ret_int ?_, rfl⟩
  all_goals simp_all [nxt]
theorem c28_4 (w : World) : Calls Try.prog 28 #[.int .i64 4] w fun e w' => e = .returned (.bool (okst 4)) ∧ w' = w := by
  go_enter Try.func28, Try.ntmps28
  go_wp2
  go_ret
  exact ⟨rfl, rfl⟩
set_option maxHeartbeats 1000000 in
theorem c27_5 (c : Int) (w : World) : Calls Try.prog 27 #[.int .i64 5, .int .u8 c] w fun e w' => e = .returned (.int .i64 (nxt 5 c : Nat)) ∧ w' = w := by
  go_enter Try.func27, Try.ntmps27
  go_wp2_with (go_at_call 32; refine (c32 _ _).mono ?_; rintro e w' ⟨rfl, hww⟩; replace hww := hww.symm; subst hww)
  all_goals go_ret
  all_goals refine ⟨ret_int ?_, rfl⟩
  all_goals simp_all [nxt]
theorem c28_5 (w : World) : Calls Try.prog 28 #[.int .i64 5] w fun e w' => e = .returned (.bool (okst 5)) ∧ w' = w := by
  go_enter Try.func28, Try.ntmps28
  go_wp2
  go_ret
  exact ⟨rfl, rfl⟩
set_option maxHeartbeats 1000000 in
theorem c27_6 (c : Int) (w : World) : Calls Try.prog 27 #[.int .i64 6, .int .u8 c] w fun e w' => e = .returned (.int .i64 (nxt 6 c : Nat)) ∧ w' = w := by
  go_enter Try.func27, Try.ntmps27
  go_wp2_with (go_at_call 32; refine (c32 _ _).mono ?_; rintro e w' ⟨rfl, hww⟩; replace hww := hww.symm; subst hww)
  all_goals go_ret
  all_goals refine ⟨ret_int ?_, rfl⟩
  all_goals simp_all [nxt]
theorem c28_6 (w : World) : Calls Try.prog 28 #[.int .i64 6] w fun e w' => e = .returned (.bool (okst 6)) ∧ w' = w := by
  go_enter Try.func28, Try.ntmps28
  go_wp2
  go_ret
  exact ⟨rfl, rfl⟩
set_option maxHeartbeats 1000000 in
theorem c27_7 (c : Int) (w : World) : Calls Try.prog 27 #[.int .i64 7, .int .u8 c] w fun e w' => e = .returned (.int .i64 (nxt 7 c : Nat)) ∧ w' = w := by
  go_enter Try.func27, Try.ntmps27
  go_wp2_with (go_at_call 32; refine (c32 _ _).mono ?_; rintro e w' ⟨rfl, hww⟩; replace hww := hww.symm; subst hww)
  all_goals go_ret
  all_goals refine ⟨ret_int ?_, rfl⟩
  all_goals simp_all [nxt]
theorem c28_7 (w : World) : Calls Try.prog 28 #[.int .i64 7] w fun e w' => e = .returned (.bool (okst 7)) ∧ w' = w := by
  go_enter Try.func28, Try.ntmps28
  go_wp2
  go_ret
  exact ⟨rfl, rfl⟩
set_option maxHeartbeats 1000000 in
theorem c27_8 (c : Int) (w : World) : Calls Try.prog 27 #[.int .i64 8, .int .u8 c] w fun e w' => e = .returned (.int .i64 (nxt 8 c : Nat)) ∧ w' = w := by
  go_enter Try.func27, Try.ntmps27
  go_wp2_with (go_at_call 32; refine (c32 _ _).mono ?_; rintro e w' ⟨rfl, hww⟩; replace hww := hww.symm; subst hww)
  all_goals go_ret
  all_goals refine ⟨ret_int ?_, rfl⟩
  all_goals simp_all [nxt]
theorem c28_8 (w : World) : Calls Try.prog 28 #[.int .i64 8] w fun e w' => e = .returned (.bool (okst 8)) ∧ w' = w := by
  go_enter Try.func28, Try.ntmps28
  go_wp2
  go_ret
  exact ⟨rfl, rfl⟩
set_option maxHeartbeats 1000000 in
theorem c27_9 (c : Int) (w : World) : Calls Try.prog 27 #[.int .i64 9, .int .u8 c] w fun e w' => e = .returned (.int .i64 (nxt 9 c : Nat)) ∧ w' = w := by
  go_enter Try.func27, Try.ntmps27
  go_wp2_with (go_at_call 32; refine (c32 _ _).mono ?_; rintro e w' ⟨rfl, hww⟩; replace hww := hww.symm; subst hww)
  all_goals go_ret
  all_goals refine ⟨ret_int ?_, rfl⟩
  all_goals simp_all [nxt]
theorem c28_9 (w : World) : Calls Try.prog 28 #[.int .i64 9] w fun e w' => e = .returned (.bool (okst 9)) ∧ w' = w := by
  go_enter Try.func28, Try.ntmps28
  go_wp2
  go_ret
  exact ⟨rfl, rfl⟩

theorem c27 (st : Nat) (h1 : 1 ≤ st) (h2 : st ≤ 9) (c : Int) (w : World) : Calls Try.prog 27 #[.int .i64 (st : Int), .int .u8 c] w fun e w' => e = .returned (.int .i64 (nxt st c : Nat)) ∧ w' = w := by
  match st, h1, h2 with
  | 1, _, _ => exact c27_1 c w
  | 2, _, _ => exact c27_2 c w
  | 3, _, _ => exact c27_3 c w
  | 4, _, _ => exact c27_4 c w
  | 5, _, _ => exact c27_5 c w
  | 6, _, _ => exact c27_6 c w
  | 7, _, _ => exact c27_7 c w
  | 8, _, _ => exact c27_8 c w
  | 9, _, _ => exact c27_9 c w
theorem c28 (st : Nat) (h1 : 1 ≤ st) (h2 : st ≤ 9) (w : World) : Calls Try.prog 28 #[.int .i64 (st : Int)] w fun e w' => e = .returned (.bool (okst st)) ∧ w' = w := by
  match st, h1, h2 with
  | 1, _, _ => exact c28_1 w
  | 2, _, _ => exact c28_2 w
  | 3, _, _ => exact c28_3 w
  | 4, _, _ => exact c28_4 w
  | 5, _, _ => exact c28_5 w
  | 6, _, _ => exact c28_6 w
  | 7, _, _ => exact c28_7 w
  | 8, _, _ => exact c28_8 w
  | 9, _, _ => exact c28_9 w

set_option maxHeartbeats 1000000 in
theorem c14 (f : Nat → Int) (g o n c i : Nat) (w : World) (hn : n ≤ 1048576) (hi : i < n) (hs : Src f w g o n) :
    Calls Try.prog 14 #[.slice (some ⟨g, o, none⟩) n c, .int .i64 (i : Int)] w fun e w' => e = .returned (.int .i64 (A f n 1 i)) ∧ w' = w := by
  have HS := hide hs
  clear hs
  go_enter Try.func14, Try.ntmps14
  go_wp2
  go_loop [5, 6] (fun s p => ∃ st k : Nat, 1 ≤ st ∧ st ≤ 9 ∧ k ≤ n ∧ s = .int .i64 (st : Int) ∧ p = .int .i64 (k : Int) ∧ A f n 1 i = A f n st k) (fun _ p => n - (intOf p).toNat)
  case atStart => exact ⟨1, i, by omega, by omega, by omega, rfl, rfl, rfl⟩
  case round =>
    obtain ⟨st, k, hs1, hs2, hk, rfl, rfl, he⟩ := hrel
    have HE := hide he
    clear he
    by_cases hlt : k < n
    · have ck := (unhide HS).cell k hlt
      have hle := nxt_le st (f k)
      have H27 := hide (c27 st hs1 hs2 (f k) w)
      by_cases h0 : nxt st (f k) = 0
      · have HE2 := hide ((unhide HE).trans (A_stop st k hlt h0))
        have H28 := hide (c28 st hs1 hs2 w)
        rw [h0] at H27
        clear h0 hle HE
        by_cases ha : okst st = true
        · have HE3 := hide ((unhide HE2).trans (if_pos ha))
          clear HE2
          go_wp2_with (first | (go_at_call 27; refine (unhide H27).mono ?_; rintro e w' ⟨rfl, hww⟩; replace hww := hww.symm; subst hww) | (go_at_call 28; refine (unhide H28).mono ?_; rintro e w' ⟨rfl, hww⟩; replace hww := hww.symm; subst hww))
          go_ret
          exact ⟨ret_int (unhide HE3).symm, rfl⟩
        · have ha' : okst st = false := by simpa using ha
          have HE3 := hide ((unhide HE2).trans (if_neg ha))
          clear HE2 ha
          go_wp2_with (first | (go_at_call 27; refine (unhide H27).mono ?_; rintro e w' ⟨rfl, hww⟩; replace hww := hww.symm; subst hww) | (go_at_call 28; refine (unhide H28).mono ?_; rintro e w' ⟨rfl, hww⟩; replace hww := hww.symm; subst hww))
          go_ret
          exact ⟨ret_int (unhide HE3).symm, rfl⟩
      · have HE2 := hide ((unhide HE).trans (A_go st k _ hlt rfl h0))
        generalize nxt st (f k) = s2 at *
        have hb : ((s2 : Int) == 0) = false := beq_eq_false_iff_ne.2 (by omega)
        clear HE
        go_wp2_with (go_at_call 27; refine (unhide H27).mono ?_; rintro e w' ⟨rfl, hww⟩; replace hww := hww.symm; subst hww)
        exact ⟨⟨s2, k + 1, by omega, hle, by omega, rfl, by go_num, unhide HE2⟩, by simp [intOf]; omega⟩
    · have HE2 := hide ((unhide HE).trans (A_end st k (by omega)))
      have H28 := hide (c28 st hs1 hs2 w)
      clear HE
      by_cases ha : okst st = true
      · have HE3 := hide ((unhide HE2).trans (if_pos ha))
        clear HE2
        go_wp2_with (go_at_call 28; refine (unhide H28).mono ?_; rintro e w' ⟨rfl, hww⟩; replace hww := hww.symm; subst hww)
        go_ret
        exact ⟨ret_int (unhide HE3).symm, rfl⟩
      · have ha' : okst st = false := by simpa using ha
        have HE3 := hide ((unhide HE2).trans (if_neg ha))
        clear HE2 ha
        go_wp2_with (go_at_call 28; refine (unhide H28).mono ?_; rintro e w' ⟨rfl, hww⟩; replace hww := hww.symm; subst hww)
        go_ret
        exact ⟨ret_int (unhide HE3).symm, rfl⟩
end Go.Proofs.Qxb6600066a.auto
