/- A proof of one law of this seat: the walk is ours, the frame is the shell's. -/
import Derived.Test.Qxb6600066aRows
import Derived.Test.Qxb6600066aHead
import Derived.WalkKit
import Derived.ProofKit
import Derived.OpenShut
import Derived.ShutString
import Derived.ChangeOld
import Derived.Below
import Derived.Test.Qxb6600066aSort19
import Derived.Deep.QuietTactic
import Derived.BigQuiet
namespace Go.Proofs.Qxb6600066a.fnSortByIndexPlacesEachFieldAtItsStableRank
open Go.ChangeShapes Go.WideShapes Go.ChangeAt Go.RowKit
open Go.ChangeMaps (open_string shut_string)
set_option linter.unusedVariables false

theorem own : ownKnob Try.prog.godebug = none := by kernel_rfl
theorem laidOut : laidOutB Try.prog = true := by kernel_rfl

/-- WHAT THE WALK IS TOLD OF A SLICE OF INTEGERS THAT CAME IN: it is nil; or it leads to a row of 'cap' cells, the numbers 'zs' (the first 'len' are its elements, the rest its spare room), each fitting its kind. -/
def IsRow (k : IntKind) (w : World) (a : Option Addr) (len cap : Nat) (zs : List Int) : Prop :=
  (a = none ∧ len = 0 ∧ cap = 0 ∧ zs = []) ∨
  ∃ x, a = some x ∧ len ≤ cap ∧ cap ≤ maxLen ∧ zs.length = cap ∧ (∀ i, i < zs.length → w.cell? (x.add i) = some (.int k (zs.getD i 0))) ∧ ∀ n ∈ zs, (Lit.int k n).wf = true

open Go.Proofs.Qxb6600066a.mem Go.Proofs.Qxb6600066a.perm Go.Proofs.Qxb6600066a.clone Go.Proofs.Qxb6600066a.sort
theorem c17 (a : Option Addr) (len cap : Nat) (w : World) (h : len ≤ maxLen) :
    Calls Try.prog 17 #[.slice a len cap] w fun e w' => e = .returned (.bool (decide (len ≤ 1048576))) ∧ w' = w := by
  unfold maxLen at h
  by_cases hc : len ≤ 1048576
  · go_enter Try.func17, Try.ntmps17
    go_wp2
    go_ret
    exact ⟨by simp [hc], rfl⟩
  · go_enter Try.func17, Try.ntmps17
    go_wp2
    go_ret
    exact ⟨by simp [hc], rfl⟩

theorem c18nil (w : World) : Calls Try.prog 18 #[.slice none 0 0] w fun e w' => e = .returned (.slice none 0 0) ∧ w' = w := by
  have hnil : ∀ W, (binOp .eql 26 (.slice none 0 0) (.slice none 0 0)).run Try.prog W = .ok (.bool true) W := fun W => Lib.run_eql_slice_nil_nil W _ _ Try.underlying26
  go_enter Try.func18, Try.ntmps18
  go_wp2
  go_ret
  exact ⟨rfl, rfl⟩

/-- A slice of ints that came in: nil, or a row whose element j is I j. -/
def Src (I : Nat → Int) (w : World) (a : Option Addr) (len cap : Nat) : Prop :=
  (a = none ∧ len = 0 ∧ cap = 0) ∨ ∃ x, a = some x ∧ ∀ i, i < len → w.cell? (x.add i) = some (.int .i64 (I i))

theorem c18any (I : Nat → Int) (a : Option Addr) (len cap : Nat) (w : World) (hr : Src I w a len cap) (hlen : len ≤ 4096) :
    Calls Try.prog 18 #[.slice a len cap] w fun e w' => ∃ a', e = .returned (.slice a' len len) ∧ Below w.heap.size w w' ∧
      (0 < len → a' = some ⟨w.heap.size, 0, none⟩ ∧ w.heap.size < w'.heap.size ∧ Blk w' w.heap.size len (fun j => .int .i64 (I j))) := by
  rcases hr with ⟨rfl, rfl, rfl⟩ | ⟨x, rfl, h4⟩
  · refine (c18nil w).mono ?_
    rintro e w' ⟨rfl, rfl⟩
    exact ⟨none, rfl, Below.refl _ _, fun h => absurd h (by omega)⟩
  · refine (c18 x len cap I w (by omega) h4).mono ?_
    rintro e w' ⟨rfl, hb, hs, hk⟩
    exact ⟨_, rfl, hb, fun _ => ⟨rfl, by omega, hk⟩⟩

theorem rank_yes (I : Nat → Int) (l t : Nat) (h : I t < I l ∨ (I t = I l ∧ t < l)) : rank I l (t + 1) = rank I l t + 1 := by rw [rank, if_pos h]
theorem rank_no (I : Nat → Int) (l t : Nat) (h : ¬ (I t < I l ∨ (I t = I l ∧ t < l))) : rank I l (t + 1) = rank I l t := by rw [rank, if_neg h, Nat.add_zero]

set_option maxRecDepth 100000 in
set_option maxHeartbeats 1000000 in
theorem main (I : Nat → Int) (a : Option Addr) (len cap : Nat) (w : World) (hr : Src I w a len cap) (hlen : len ≤ 4096) :
    Calls Try.prog 6 #[.slice a len cap] w fun e w' => e = .returned (.bool true) ∧ Below w.heap.size w w' := by
  have HR := hide hr
  clear hr
  have hd1 : decide (len ≤ 1048576) = true := decide_eq_true (by omega)
  have m22 := make22 len (by omega)
  have m29 := make29 len (by omega)
  go_enter Try.func6, Try.ntmps6
  go_wp2_with (go_at_call 17; refine (c17 a len cap _ (by unfold maxLen; omega)).mono ?_; rintro e w' ⟨rfl, hww⟩; replace hww := hww.symm; subst hww)
  refine (c18any I a len cap w (unhide HR) hlen).mono ?_
  rintro e w1 ⟨a', rfl, hb1, ha'⟩
  have HB1 := hide hb1
  have HA := hide ha'
  clear hb1 ha' HR
  go_wp2
  go_loopw [6] (fun i wr => ∃ k : Nat, k ≤ len ∧ i = .int .i64 k ∧ Below w1.heap.size w1 wr ∧ wr.heap.size = w1.heap.size + 2 ∧
      Blk wr w1.heap.size len (fun j => .int .u8 (upto k (fun j => (j : Int) % 256) j)) ∧ Blk wr (w1.heap.size + 1) len (fun j => .int .u64 (upto k (fun j => (j : Int)) j))) (fun i _ => len - (intOf i).toNat)
  case atStart =>
    refine ⟨0, Nat.zero_le _, rfl, ((Below.refl _ _).alloc (Nat.le_refl _) _).alloc (by simp only [World.size_alloc]; omega) _, by simp, ?_, ?_⟩
    · exact (blk_blank w1 len 5 .u8 _).alloc (by simp only [World.size_alloc]; omega) _
    · have := blk_blank (w1.alloc (.cells (madeCells #[.int .u8 0] len) 5)) len 30 .u64 (fun j => (j : Int))
      rw [World.size_alloc] at this
      exact this
  case round =>
    obtain ⟨k, hk, rfl, hbel, hsz, k0, k1⟩ := hrel
    have HB := hide hbel
    have K0 := hide k0
    have K1 := hide k1
    clear hbel k0 k1 m22 m29
    by_cases hlt : k < len
    · have e0 := (unhide K0).cell k hlt
      have e1 := (unhide K1).cell k hlt
      have f0 := (unhide K0).free k
      have f1 := (unhide K1).free k
      go_wp2
      refine ⟨⟨k + 1, by omega, by go_num, ((unhide HB).setCell (Nat.le_refl _) _).setCell (Nat.le_succ _) _, by simpa using hsz, ?_, ?_⟩, by simp [intOf]; omega⟩
      · exact (blk_step (f := fun j => (j : Int) % 256) (unhide K0) hlt).other (by show w1.heap.size + 1 ≠ w1.heap.size; omega) _
      · exact blk_step (f := fun j => (j : Int)) ((unhide K1).other (a := ⟨w1.heap.size, k, none⟩) (by show w1.heap.size ≠ w1.heap.size + 1; omega) _) hlt
    · have hkn : k = len := by omega
      subst hkn
      clear hlt
      have hA : 0 < k → a' = some ⟨w.heap.size, 0, none⟩ ∧ w.heap.size < wr.heap.size ∧ Blk wr w.heap.size k (fun j => .int .i64 (I j)) := by
        intro h
        obtain ⟨h1, h2, h3⟩ := unhide HA h
        exact ⟨h1, by omega, h3.below (unhide HB) h2⟩
      have HA2 := hide hA
      have HB2 := hide ((unhide HB1).trans ((unhide HB).mono (unhide HB1).size))
      have K0' := hide (blk_full (unhide K0))
      have K1' := hide (blk_full (unhide K1))
      clear hA HA HB HB1 K0 K1
      go_wp2_with fail
      refine (c19 I (fun j => (j : Int) % 256) (fun j => (j : Int)) k w.heap.size w1.heap.size (w1.heap.size + 1) a' wr hlen (by omega) (by omega) (unhide HA2) (unhide K0') (unhide K1')).mono ?_
      rintro e w2 ⟨s, rfl, hb3, hs3, p, hinv, o0, o1, o2⟩
      have hA : 0 < k → a' = some ⟨w.heap.size, 0, none⟩ ∧ Blk w2 w.heap.size k (fun j => .int .i64 (I j)) := by
        intro h
        obtain ⟨h1, h2, h3⟩ := unhide HA2 h
        exact ⟨h1, h3.below hb3 h2⟩
      have HA := hide hA
      have HB3 := hide ((unhide HB2).trans (hb3.mono (unhide HB2).size))
      have HV := hide hinv
      have O0 := hide o0
      have O1 := hide o1
      have O2 := hide o2
      clear hA HA2 HB2 K0' K1' hb3 hinv o0 o1 o2 hs3 hsz
      clear wr
      go_wp2
      go_loopw [10] (fun i wr => ∃ l : Nat, l ≤ k ∧ i = .int .i64 l ∧ ∃ nq, wr = w2.drewN nq) (fun i _ => k - (intOf i).toNat)
      case atStart => exact ⟨0, Nat.zero_le _, rfl, 0, rfl⟩
      case round =>
        obtain ⟨l, hl, rfl, nq, rfl⟩ := hrel
        by_cases hlt : l < k
        · obtain ⟨rfl, hbi⟩ := unhide HA (by omega)
          have HI := hide hbi
          have xk := hbi.cell l hlt
          clear hbi
          go_wp2
          go_loopw [11, 12] (fun r j wq => ∃ t : Nat, t ≤ k ∧ j = .int .i64 t ∧ r = .int .i64 (rank I l t) ∧ ∃ nq, wq = w2.drewN nq) (fun _ j _ => k - (intOf j).toNat)
          case atStart => exact ⟨0, Nat.zero_le _, rfl, rfl, nq, rfl⟩
          case round =>
            obtain ⟨t, ht, rfl, rfl, nq2, rfl⟩ := hrel
            have hrk := rank_le I l t
            by_cases htk : t < k
            · have xt := (unhide HI).cell t htk
              by_cases h1 : I t < I l
              · have d1 : decide (I t < I l) = true := decide_eq_true h1
                go_wp2
                go_quiet (fail)
                go_wp2
                exact ⟨⟨t + 1, by omega, by go_num, by rw [rank_yes I l t (.inl h1)]; rfl, nq2 + nq, rfl⟩, by simp [intOf]; omega⟩
              · have d1 : decide (I t < I l) = false := decide_eq_false h1
                by_cases h2 : I t = I l
                · have d2 : (I t == I l) = true := beq_iff_eq.2 h2
                  have H2 := hide h2
                  clear h2
                  by_cases h3 : t < l
                  · go_wp2
                    go_quiet (fail)
                    go_wp2
                    exact ⟨⟨t + 1, by omega, by go_num, by rw [rank_yes I l t (.inr ⟨unhide H2, h3⟩)]; rfl, nq2 + nq, rfl⟩, by simp [intOf]; omega⟩
                  · go_wp2
                    go_quiet (fail)
                    go_wp2
                    exact ⟨⟨t + 1, by omega, by go_num, by rw [rank_no I l t (by omega)], nq2 + nq, rfl⟩, by simp [intOf]; omega⟩
                · have d2 : (I t == I l) = false := beq_eq_false_iff_ne.2 h2
                  go_wp2
                  go_quiet (fail)
                  go_wp2
                  exact ⟨⟨t + 1, by omega, by go_num, by rw [rank_no I l t (by omega)], nq2 + nq, rfl⟩, by simp [intOf]; omega⟩
            · have htk' : t = k := by omega
              subst htk'
              obtain ⟨hr1, hr2⟩ := (unhide HV).at_rank hlt
              have y0 := (unhide O0).cell _ hr1
              have y1 := (unhide O1).cell _ hr1
              have y2 := (unhide O2).cell _ hr1
              rw [hr2] at y0 y1 y2
              clear hr2 hrk
              generalize rank I l t = r at *
              go_wp2
              go_quiet (fail)
              go_wp2
              exact ⟨⟨l + 1, by omega, by go_num, nq2 + nq, rfl⟩, by simp [intOf]; omega⟩
        · go_wp2
          go_ret
          exact ⟨rfl, below_drewN (unhide HB3) _⟩

theorem far (a : Option Addr) (len cap : Nat) (w : World) (h : len ≤ maxLen) (hbig : 4096 < len) :
    Calls Try.prog 6 #[.slice a len cap] w fun e w' => e = .returned (.bool true) ∧ Below w.heap.size w w' := by
  by_cases hc : len ≤ 1048576
  · have hd1 : decide (len ≤ 1048576) = true := decide_eq_true hc
    go_enter Try.func6, Try.ntmps6
    go_wp2_with (go_at_call 17; refine (c17 a len cap _ h).mono ?_; rintro e w' ⟨rfl, hww⟩; replace hww := hww.symm; subst hww)
    go_ret
    exact ⟨rfl, Below.refl _ _⟩
  · have hd1 : decide (len ≤ 1048576) = false := decide_eq_false hc
    go_enter Try.func6, Try.ntmps6
    go_wp2_with (go_at_call 17; refine (c17 a len cap _ h).mono ?_; rintro e w' ⟨rfl, hww⟩; replace hww := hww.symm; subst hww)
    go_ret
    exact ⟨rfl, Below.refl _ _⟩

theorem walk (a0 : Option Addr) (len0 cap0 : Nat) (z0 : List Int) (w : World) (w0 : IsRow .i64 w a0 len0 cap0 z0) :
    Calls Try.prog 6 #[.slice a0 len0 cap0] w fun e w' => e = .returned (.bool true) ∧ Below w.heap.size w w' := by
  have hm : len0 ≤ maxLen := by
    rcases w0 with ⟨_, rfl, _⟩ | ⟨x, _, h1, h2, _⟩
    · exact Nat.zero_le _
    · exact Nat.le_trans h1 h2
  by_cases hbig : 4096 < len0
  · exact far a0 len0 cap0 w hm hbig
  · refine main (fun j => z0.getD j 0) a0 len0 cap0 w ?_ (by omega)
    rcases w0 with ⟨h1, h2, h3, _⟩ | ⟨x, h1, h2, _, h3, h4, _⟩
    · exact .inl ⟨h1, h2, h3⟩
    · exact .inr ⟨x, h1, fun i hi => h4 i (by omega)⟩

/-! ### The row's step -/
set_option maxRecDepth 100000 in
theorem lifted (os : Os) (started : os.Started) (H : Type) (enc : TypeId × Value → H) :
    ReturnsInHanded {} Try.checked os 6 .any (Rows.fnSortByIndexPlacesEachFieldAtItsStableRankSpec.pre6 enc Try.prog Try.f6 Rows.fnSortByIndexPlacesEachFieldAtItsStableRankRow.domain false) (Rows.fnSortByIndexPlacesEachFieldAtItsStableRankSpec.post enc Try.prog Try.f6 false true false false) := by
  refine returnsInHanded_of_change (C := Try.checked) own started (by kernel_rfl) Try.func6
    (ChangeSpec.witness6 (enc := enc) (C := Try.checked) false ⟨#[], #[.slice none 0 0], []⟩ 8 (by kernel_rfl) (by kernel_rfl) (by kernel_rfl) (by kernel_rfl)) ?_
  intro W base args ds gs before hval0 hW hcnd _
  have hval : ∀ (j : Nat) t v, Try.f6.params[j]? = some t → args[j]? = some v → Value.okWide Try.prog W .any base t v := hval0
  have hW' := hW
  obtain ⟨p, q, hA0, hV, rfl, hfz, hnd⟩ := hW
  have hA : DataW.TrodAll enc Try.prog W 0 (fun _ => true) true Try.f6.params.toList args.toList ds p := hA0
  rw [Try.params6] at hA hval
  obtain ⟨v0, vs0, d0, ds0, p0, q0, hargs, rfl, rfl, h0, r0⟩ := trodAll_cons hA
  obtain ⟨rfl, rfl, rfl⟩ := trodAll_nil r0
  obtain rfl : args = #[v0] := by cases args; simp_all
  obtain ⟨rfl, rfl⟩ := trodVars_none hV
  obtain ⟨a0, len0, cap0, rfl⟩ := okWide_slice Try.underlying26 (hval 0 26 v0 rfl rfl)
  have k0 := h0
  have lt0 : ∀ x ∈ p0, x.block < W.heap.size := by obtain ⟨m, hm⟩ := k0; exact DataW.trod_lt m _ _ _ hm
  obtain ⟨z0, w0⟩ : ∃ zs, IsRow .i64 W a0 len0 cap0 zs := by
    obtain ⟨fuel, hf⟩ := h0
    rcases open_ints Try.underlying26 Try.underlying3 (by kernel_rfl) hf with ⟨hcs, _⟩ | ⟨x, l, c, zs, hcs, _, hl, hm, hz, _, hcell, hwz⟩
    · simp [Value.cells] at hcs
      obtain ⟨rfl, rfl, rfl⟩ := hcs
      exact ⟨[], .inl ⟨rfl, rfl, rfl, rfl⟩⟩
    · simp [Value.cells] at hcs
      obtain ⟨rfl, rfl, rfl⟩ := hcs
      exact ⟨zs, .inr ⟨_, rfl, hl, hm, by simpa using hz, hcell, hwz⟩⟩
  clear hA0 hval0
  refine (walk a0 len0 cap0 z0 W w0).mono fun e W' ⟨he, bel⟩ => ?_
  subst he
  exact ⟨_, rfl, _, _, _, [], _, [], hW', trodAll_mk1 (shut_bool Try.underlying4 _), (trodAll_cons_mk (Below.trod laidOut (by kernel_rfl) (of_decide_eq_true (by kernel_rfl)) k0 bel lt0) trodAll_mk0), rfl, bel.frame _, fun h => by cases h⟩

theorem closed : joinedFacts Try.prog 6 Try.f6 Rows.fnSortByIndexPlacesEachFieldAtItsStableRankSpec Rows.fnSortByIndexPlacesEachFieldAtItsStableRankRow = true := by
  unfold joinedFacts
  rw [head.mayEnter, head.liftsFinal, head.make]
  kernel_rfl

theorem over : Rows.fnSortByIndexPlacesEachFieldAtItsStableRankRow.holds Try.pinned (OpenSpec.ofChange Rows.fnSortByIndexPlacesEachFieldAtItsStableRankSpec) :=
  OpenClaim.holds_of_wide 6 Try.f6 rfl rfl rfl rfl rfl rfl rfl ⟨rfl, rfl, rfl, rfl, rfl⟩ rfl rfl rfl rfl rfl (by kernel_rfl) Try.func6 closed
    (of_decide_eq_true (by kernel_rfl)) (by unfold Func.isWrapper; first | (rw [if_pos (by decide +kernel)]; kernel_rfl) | (rw [if_neg (by decide +kernel)]; exact ⟨rfl, rfl⟩))
    (fun os started H enc _ => lifted os started H enc)

/-- The statement. -/
theorem proved : Rows.FnSortByIndexPlacesEachFieldAtItsStableRankSaid := over
end Go.Proofs.Qxb6600066a.fnSortByIndexPlacesEachFieldAtItsStableRank
