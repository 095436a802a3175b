/- The contract of sortByIndex: behind it the fields lie in the order of a stable sort. -/
import Derived.Test.Qxb6600066aFields
import Derived.WalkKit
import Derived.ProofKit
import Derived.Below
import Derived.Deep.QuietTactic
import Derived.BigQuiet
namespace Go.Proofs.Qxb6600066a.sort
open Go.ChangeShapes Go.WideShapes Go.ChangeAt Go.RowKit Go.Proofs.Qxb6600066a.mem
set_option linter.unusedVariables false

open Go.Proofs.Qxb6600066a.perm

set_option maxHeartbeats 1000000 in
theorem c29 (I W T : Nat → Int) (g n : Nat) (w : World) (hn : n ≤ 4096) (hg : g < w.heap.size) (hfs : FS I W T w g n (fun i => i)) :
    Calls Try.prog 29 #[.slice (some ⟨g, 0, none⟩) n n] w fun e w' => e = .returned (.tuple #[]) ∧ Below g w w' ∧ ∃ p, Inv I n p ∧ FS I W T w' g n p := by
  have HF := hide hfs
  clear hfs
  go_enter Try.func29, Try.ntmps29
  go_wp2
  go_loopw [2] (fun i wr => ∃ k : Nat, 1 ≤ k ∧ (k ≤ n ∨ (n = 0 ∧ k = 1)) ∧ i = .int .i64 k ∧ Below g w wr ∧ ∃ q, Inv I k q ∧ FS I W T wr g n q) (fun i _ => n + 1 - (intOf i).toNat)
  case atStart => exact ⟨1, by omega, by omega, rfl, Below.refl _ _, _, Inv.start I, unhide HF⟩
  case round =>
    obtain ⟨k, hk1, hkn, rfl, hbel, q, hinv, hq⟩ := hrel
    have HQ := hide hq
    have HV := hide hinv
    have HB := hide hbel
    have HN := hide hkn
    clear hq HF hinv hbel hkn
    by_cases hlt : k < n
    · obtain ⟨m, rfl⟩ : ∃ m, k = m + 1 := ⟨k - 1, by omega⟩
      have a0 := (unhide HQ).c0 (m+1) hlt
      have b0 := (unhide HQ).c0 m (by omega)
      by_cases hge : I (q m) ≤ I (q (m+1))
      · go_wp2
        go_quiet (fail)
        go_wp2
        exact ⟨⟨m + 2, by omega, by omega, by go_num, below_drewN (unhide HB) _, q, (unhide HV).keep hge, (unhide HQ).drewN _⟩, by simp [intOf]; omega⟩
      · go_wp2
        go_quiet (fail)
        have HQ1 := hide ((unhide HQ).drewN nq)
        have HB1 := hide (below_drewN (unhide HB) nq)
        clear HQ HB a0 b0
        generalize wr.drewN nq = w1 at *
        have a0 := (unhide HQ1).c0 (m+1) hlt
        have a1 := (unhide HQ1).c1 (m+1) hlt
        have a2 := (unhide HQ1).c2 (m+1) hlt
        have a3 := (unhide HQ1).c3 (m+1) hlt
        have hg1 : g < w1.heap.size := Nat.lt_of_lt_of_le hg (unhide HB1).size
        go_wp2
        go_loopw [4] (fun jj wq => ∃ j : Nat, j ≤ m + 1 ∧ jj = .int .i64 j ∧ Below g w wq ∧ Box I W T wq w1.heap.size (q (m + 1)) ∧ (∀ i, j ≤ i → i < m + 1 → I (q (m + 1)) < I (q i)) ∧ ∃ x, FS I W T wq g n (mid q j x (m + 1))) (fun jj _ => (intOf jj).toNat)
        case atStart =>
          refine ⟨m + 1, Nat.le_refl _, by go_num, (unhide HB1).alloc (Nat.le_of_lt hg1) _, ⟨by simp, by simp, by simp, by simp⟩, fun i h1 h2 => by omega, q (m + 1), ?_⟩
          exact ((unhide HQ1).congr fun j _ => (mid_start q (m + 1) j).symm).below ((Below.refl _ _).alloc (Nat.le_refl _) _) hg1
        case round =>
          obtain ⟨j, hj, rfl, hbel', hbox, hup, x, hq'⟩ := hrel
          have HQ' := hide hq'
          have HU := hide hup
          have HX := hide hbox
          have HB' := hide hbel'
          have t0 := hbox.c0
          clear hq' hup hbox hbel' a0 a1 a2 a3
          by_cases hj0 : 0 < j
          · obtain ⟨l, rfl⟩ : ∃ l, j = l + 1 := ⟨j - 1, by omega⟩
            have d0 := (unhide HQ').c0 l (by omega)
            rw [mid_at _ _ _ _ (by omega)] at d0
            by_cases hgt : I (q (m+1)) < I (q l)
            · have d1 := (unhide HQ').c1 l (by omega)
              have d2 := (unhide HQ').c2 l (by omega)
              have d3 := (unhide HQ').c3 l (by omega)
              rw [mid_at _ _ _ _ (by omega)] at d1 d2
              have e0 := (unhide HQ').c0 (l+1) (by omega)
              have e1 := (unhide HQ').c1 (l+1) (by omega)
              have e2 := (unhide HQ').c2 (l+1) (by omega)
              have e3 := (unhide HQ').c3 (l+1) (by omega)
              have f0 := (unhide HQ').free ((l+1) * 4)
              have f1 := (unhide HQ').free ((l+1) * 4 + 1)
              have f2 := (unhide HQ').free ((l+1) * 4 + 2)
              have f3 := (unhide HQ').free ((l+1) * 4 + 3)
              have hd : decide ((0 : Int) < (l : Int) + 1) = true := decide_eq_true (by omega)
              go_wp2
              go_quiet (fail)
              go_wp2
              refine ⟨⟨l, by omega, rfl, set4_below (below_drewN (unhide HB') _) (Nat.le_refl _) _ _ _ _ _, ((unhide HX).drewN _).set4 (by omega) _ _ _ _ _, ?_, q l, ?_⟩, by simp [intOf]⟩
              · intro i h1 h2
                by_cases e : i = l
                · subst e; exact hgt
                · exact unhide HU i (by omega) h2
              · exact (((unhide HQ').drewN nq).put (j := l + 1) (by omega) (q l)).congr fun i _ => mid_step q l x (m + 1) hj i
            · have hd : decide ((0 : Int) < (l : Int) + 1) = true := decide_eq_true (by omega)
              have hnd : decide (I (q (m + 1)) < I (q l)) = false := decide_eq_false hgt
              have t1 := (unhide HX).c1
              have t2 := (unhide HX).c2
              have t3 := (unhide HX).c3
              have e0 := (unhide HQ').c0 (l+1) (by omega)
              have e1 := (unhide HQ').c1 (l+1) (by omega)
              have e2 := (unhide HQ').c2 (l+1) (by omega)
              have e3 := (unhide HQ').c3 (l+1) (by omega)
              have f0 := (unhide HQ').free ((l+1) * 4)
              have f1 := (unhide HQ').free ((l+1) * 4 + 1)
              have f2 := (unhide HQ').free ((l+1) * 4 + 2)
              have f3 := (unhide HQ').free ((l+1) * 4 + 3)
              go_wp2
              go_quiet (fail)
              go_wp2
              have hfx : q (m + 1) = m + 1 := (unhide HV).fix _ (Nat.le_refl _)
              refine ⟨⟨m + 2, by omega, by omega, by go_num, set4_below (below_drewN (unhide HB') _) (Nat.le_refl _) _ _ _ _ _, mid q (l + 1) (m + 1) (m + 1), (unhide HV).ins hj ?_ (.inr ?_), ?_⟩, by simp [intOf]; omega⟩
              · intro i h1 h2; have := unhide HU i h1 h2; rwa [hfx] at this
              · rw [hfx] at hgt; simpa using hgt
              · have := ((unhide HQ').drewN nq).put (j := l + 1) (by omega) (q (m + 1))
                refine this.congr fun i _ => ?_
                rw [hfx]; exact mid_put q (l + 1) x (m + 1) (m + 1) i
          · obtain rfl : j = 0 := by omega
            have hd : decide ((0 : Int) < (0 : Int)) = false := rfl
            have t1 := (unhide HX).c1
            have t2 := (unhide HX).c2
            have t3 := (unhide HX).c3
            have e0 : wr.cell? ⟨g, 0, none⟩ = _ := (unhide HQ').c0 0 (by omega)
            have e1 : wr.cell? ⟨g, 1, none⟩ = _ := (unhide HQ').c1 0 (by omega)
            have e2 : wr.cell? ⟨g, 2, none⟩ = _ := (unhide HQ').c2 0 (by omega)
            have e3 : wr.cell? ⟨g, 3, none⟩ = _ := (unhide HQ').c3 0 (by omega)
            have f0 := (unhide HQ').free 0
            have f1 := (unhide HQ').free 1
            have f2 := (unhide HQ').free 2
            have f3 := (unhide HQ').free 3
            go_wp2
            go_quiet (fail)
            go_wp2
            have hfx : q (m + 1) = m + 1 := (unhide HV).fix _ (Nat.le_refl _)
            refine ⟨⟨m + 2, by omega, by omega, by go_num, set4_below (below_drewN (unhide HB') _) (Nat.le_refl _) _ _ _ _ _, mid q 0 (m + 1) (m + 1), (unhide HV).ins hj ?_ (.inl rfl), ?_⟩, by simp [intOf]; omega⟩
            · intro i h1 h2; have := unhide HU i h1 h2; rwa [hfx] at this
            · have := ((unhide HQ').drewN nq).put (j := 0) (by omega) (q (m + 1))
              refine this.congr fun i _ => ?_
              rw [hfx]; exact mid_put q 0 x (m + 1) (m + 1) i
    · go_wp2
      go_end0
      refine ⟨rfl, unhide HB, q, ?_, unhide HQ⟩
      rcases unhide HN with h | ⟨h1, h2⟩
      · have e : k = n := by omega
        subst e; exact unhide HV
      · subst h1; subst h2; exact (unhide HV).zero
end Go.Proofs.Qxb6600066a.sort
