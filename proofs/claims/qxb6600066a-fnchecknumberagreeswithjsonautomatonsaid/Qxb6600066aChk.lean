/- The contracts of skipDigits, checkNumber and ZZCheckNumber. -/
import Derived.Test.Qxb6600066aMem
import Derived.Test.Qxb6600066aNum
import Derived.WalkKit
import Derived.ProofKit
import Derived.Below
import Derived.Deep.Cut
import Derived.Deep.DeepCutAuto
namespace Go.Proofs.Qxb6600066a.num
open Go.ChangeShapes Go.WideShapes Go.ChangeAt Go.RowKit Go.Proofs.Qxb6600066a.mem
set_option linter.unusedVariables false

theorem ret_int {k : IntKind} {a b : Int} (h : a = b) : Ending.returned (.int k a) = .returned (.int k b) := by rw [h]

theorem tst {k n : Nat} (h : k < n) (x y : Int) : (x == y) = decide (k < n ∧ x = y) := by
  by_cases e : x = y
  · rw [beq_iff_eq.2 e, decide_eq_true ⟨h, e⟩]
  · rw [beq_eq_false_iff_ne.2 e, decide_eq_false (fun q => e q.2)]

theorem tst2 {k n : Nat} (h : k < n) (x y z : Int) : (x == y || x == z) = decide (k < n ∧ (x = y ∨ x = z)) := by
  by_cases e : x = y ∨ x = z
  · rw [decide_eq_true ⟨h, e⟩]
    rcases e with e | e
    · rw [beq_iff_eq.2 e]; rfl
    · rw [beq_iff_eq.2 e, Bool.or_true]
  · rw [decide_eq_false (fun q => e q.2), beq_eq_false_iff_ne.2 (fun q => e (.inl q)), beq_eq_false_iff_ne.2 (fun q => e (.inr q))]; rfl

/-- The bytes of a slice: element j is f j, each a byte. -/
structure Src (f : Nat → Int) (w : World) (g o n : Nat) : Prop where
  cell : ∀ j, j < n → w.cell? ⟨g, o + j, none⟩ = some (.int .u8 (f j))

set_option maxHeartbeats 400000 in
theorem c31 (f : Nat → Int) (g o n c i : Nat) (w : World) (hn : n ≤ 1048576) (hi : i ≤ n) (hs : Src f w g o n) :
    Calls Try.prog 31 #[.slice (some ⟨g, o, none⟩) n c, .int .i64 (i : Int)] w fun e w' => e = .returned (.int .i64 (skip f n i : Nat)) ∧ w' = w := by
  have HS := hide hs
  clear hs
  go_enter Try.func31, Try.ntmps31
  go_wp2
  go_loop [1] (fun s => ∃ k : Nat, k ≤ n ∧ s = .int .i64 (k : Int) ∧ skip f n i = skip f n k) (fun s => n - (intOf s).toNat)
  case atStart => exact ⟨i, hi, rfl, rfl⟩
  case round =>
    obtain ⟨k, hk, rfl, he⟩ := hrel
    have HE := hide he
    clear he
    by_cases hlt : k < n
    · have ck := (unhide HS).cell k hlt
      by_cases h1 : 48 ≤ f k
      · by_cases h2 : f k ≤ 57
        · go_wp2
          go_round
          case rel => exact ⟨k + 1, by omega, by go_num, by rw [unhide HE]; exact skip_yes f n k hlt (by simp [dig, h1, h2])⟩
          case measure => simp [intOf]; omega
        · go_wp2
          go_ret
          exact ⟨ret_int (by rw [unhide HE, skip_no f n k hlt (by simp [dig]; omega)]), rfl⟩
      · go_wp2
        go_ret
        exact ⟨ret_int (by rw [unhide HE, skip_no f n k hlt (by simp [dig]; omega)]), rfl⟩
    · go_wp2
      go_ret
      exact ⟨ret_int (by rw [unhide HE, skip_end f n k (by omega)]), rfl⟩

set_option maxRecDepth 100000 in
set_option maxHeartbeats 1000000 in
theorem c26 (f : Nat → Int) (g o n c i : Nat) (w : World) (hn : n ≤ 1048576) (hi : i < n) (hs : Src f w g o n) :
    Calls Try.prog 26 #[.slice (some ⟨g, o, none⟩) n c, .int .i64 (i : Int)] w fun e w' => e = .returned (.int .i64 (chk f n i)) ∧ w' = w := by
  have ci := hs.cell i hi
  have HS := hide hs
  clear hs
  have HC : Hid (chk f n i = st2 f n (mn f i)) := rfl
  have hmn := mn_le f i
  go_enter Try.func26, Try.ntmps26
  go_upto_if 10 with fail
  go_cut [1] (fun s wx => w = wx ∧ s = .int .i64 (mn f i : Nat))
  case first =>
    by_cases h : f i = 45
    · have hb : (f i == 45) = true := beq_iff_eq.2 h
      have H := hide h
      clear h
      go_wp2
      go_meet
      case rel => exact ⟨rfl, by unfold mn; rw [if_pos (unhide H)]; rfl⟩
    · have hb : (f i == 45) = false := beq_eq_false_iff_ne.2 h
      go_wp2
      go_meet
      case rel => exact ⟨rfl, by unfold mn; rw [if_neg h]⟩
  case rest =>
    obtain ⟨rfl, rfl⟩ := hcut
    generalize mn f i = j at *
    obtain ⟨hj1, hj2⟩ := hmn
    by_cases hjn : j = n
    · subst hjn
      go_wp2
      go_ret
      exact ⟨ret_int (by rw [unhide HC, st2, if_pos rfl]), rfl⟩
    · have hjb : ((j : Int) == (n : Int)) = false := beq_eq_false_iff_ne.2 (by omega)
      have cj := (unhide HS).cell j (by omega)
      have HC2 : Hid (chk f n i = if f j = 48 then st3 f n (j + 1) else if dig (f j) = true then st3 f n (skip f n j) else -1) := hide (by rw [unhide HC, st2, if_neg hjn])
      clear HC
      go_upto_if 21 with fail
      go_cut [1] (fun s wx => w = wx ∧ ∃ k : Nat, k ≤ n ∧ s = .int .i64 (k : Int) ∧ chk f n i = st3 f n k)
      case first =>
        by_cases h : f j = 48
        · have hb : (f j == 48) = true := beq_iff_eq.2 h
          have HC3 := hide ((unhide HC2).trans (if_pos h))
          clear HC2 h
          go_wp2
          go_meet
          case rel => exact ⟨rfl, j + 1, by omega, by go_num, unhide HC3⟩
        · have hb : (f j == 48) = false := beq_eq_false_iff_ne.2 h
          have HC3 := hide ((unhide HC2).trans (if_neg h))
          by_cases h1 : 49 ≤ f j
          · by_cases h2 : f j ≤ 57
            · have HC4 := hide ((unhide HC3).trans (if_pos (by simp [dig]; omega)))
              have hsk := skip_le f n j (by omega)
              clear HC2 HC3 h
              go_wp2_with (go_at_call 31; refine (c31 f g o n c j _ hn (by omega) (unhide HS)).mono ?_; rintro e w' ⟨rfl, hww⟩; replace hww := hww.symm; subst hww)
              go_meet
              case rel => exact ⟨rfl, skip f n j, hsk, rfl, unhide HC4⟩
            · have HC4 := hide ((unhide HC3).trans (if_neg (by simp [dig]; omega)))
              clear HC2 HC3 h
              go_wp2
              go_ret
              exact ⟨ret_int (unhide HC4).symm, rfl⟩
          · have HC4 := hide ((unhide HC3).trans (if_neg (by simp [dig]; omega)))
            clear HC2 HC3 h
            go_wp2
            go_ret
            exact ⟨ret_int (unhide HC4).symm, rfl⟩
      case rest =>
        obtain ⟨rfl, k, hk, rfl, hc3⟩ := hcut
        have HC3 := hide hc3
        clear hc3 HC2
        go_upto_region 10 with fail
        go_cut [49] (fun s wx => w = wx ∧ s = .bool (decide (k < n ∧ f k = 46)))
        case first =>
          by_cases hkn : k < n
          · have ck := (unhide HS).cell k hkn
            go_wp2
            go_meet
            case rel => exact ⟨rfl, by rw [← tst hkn]⟩
          · go_wp2
            go_meet
            case rel => exact ⟨rfl, by rw [decide_eq_false (fun q => hkn q.1)]⟩
        case rest =>
          obtain ⟨rfl, rfl⟩ := hcut
          generalize hB : decide (k < n ∧ f k = 46) = B
          have HBB := hide hB
          clear hB
          go_upto_if 49 with fail
          go_cut [1] (fun s wx => w = wx ∧ ∃ l : Nat, l ≤ n ∧ s = .int .i64 (l : Int) ∧ chk f n i = st4 f n l)
          case first =>
            cases B with
            | true =>
              have h : k < n ∧ f k = 46 := of_decide_eq_true (unhide HBB)
              have HC4 := hide ((unhide HC3).trans (if_pos h))
              have hkn := h.1
              have hsk := skip_le f n (k + 1) (by omega)
              have hsg := skip_ge f n (k + 1)
              have cl := (unhide HS).cell (skip f n (k + 1) - 1) (by omega)
              clear HC3 h
              have H31 := hide (c31 f g o n c (k + 1) w hn (by omega) (unhide HS))
              rw [show ((k + 1 : Nat) : Int) = (k : Int) + 1 from rfl] at H31
              generalize skip f n (k + 1) = m at *
              obtain ⟨m', rfl⟩ : ∃ m', m = m' + 1 := ⟨m - 1, by omega⟩
              rw [Nat.add_sub_cancel] at cl HC4
              by_cases h2 : f m' = 46
              · have hb : (f m' == 46) = true := beq_iff_eq.2 h2
                have HC5 := hide ((unhide HC4).trans (if_pos h2))
                clear h2 HC4
                go_wp2_with (go_at_call 31; refine (unhide H31).mono ?_; rintro e w' ⟨rfl, hww⟩; replace hww := hww.symm; subst hww)
                go_ret
                exact ⟨ret_int (unhide HC5).symm, rfl⟩
              · have hb : (f m' == 46) = false := beq_eq_false_iff_ne.2 h2
                have HC5 := hide ((unhide HC4).trans (if_neg h2))
                clear h2 HC4
                go_wp2_with (go_at_call 31; refine (unhide H31).mono ?_; rintro e w' ⟨rfl, hww⟩; replace hww := hww.symm; subst hww)
                go_meet
                case rel => exact ⟨rfl, m' + 1, hsk, by go_num, unhide HC5⟩
            | false =>
              have h : ¬ (k < n ∧ f k = 46) := of_decide_eq_false (unhide HBB)
              have HC4 := hide ((unhide HC3).trans (if_neg h))
              clear HC3 h
              go_wp2
              go_meet
              case rel => exact ⟨rfl, k, hk, rfl, unhide HC4⟩
          case rest =>
            obtain ⟨rfl, l, hl, rfl, hc4⟩ := hcut
            have HC4 := hide hc4
            clear hc4 HC3 HBB B
            go_upto_region 14 with fail
            go_cut [77] (fun s wx => w = wx ∧ s = .bool (decide (l < n ∧ (f l = 101 ∨ f l = 69))))
            case first =>
              by_cases hln : l < n
              · have cl := (unhide HS).cell l hln
                by_cases h1 : f l = 101
                · have hb : (f l == 101) = true := beq_iff_eq.2 h1
                  have H1 := hide h1
                  clear h1
                  go_wp2
                  go_meet
                  case rel => exact ⟨rfl, by rw [decide_eq_true ⟨hln, .inl (unhide H1)⟩]⟩
                · have hb : (f l == 101) = false := beq_eq_false_iff_ne.2 h1
                  go_wp2
                  go_meet
                  case rel => exact ⟨rfl, by rw [← tst2 hln, hb]; rfl⟩
              · go_wp2
                go_meet
                case rel => exact ⟨rfl, by rw [decide_eq_false (fun q => hln q.1)]⟩
            case rest =>
              obtain ⟨rfl, rfl⟩ := hcut
              generalize hB : decide (l < n ∧ (f l = 101 ∨ f l = 69)) = B
              have HBB := hide hB
              clear hB
              cases B with
              | false =>
                have h : ¬ (l < n ∧ (f l = 101 ∨ f l = 69)) := of_decide_eq_false (unhide HBB)
                have HC5 := hide ((unhide HC4).trans (if_neg h))
                clear HC4 h
                go_wp2
                go_ret
                exact ⟨ret_int (unhide HC5).symm, rfl⟩
              | true =>
                have h : l < n ∧ (f l = 101 ∨ f l = 69) := of_decide_eq_true (unhide HBB)
                have HC5 := hide ((unhide HC4).trans (if_pos h))
                have hln := h.1
                clear HC4 h HBB
                have HSG : Hid (sg f n (l + 1) = if decide (l + 1 < n ∧ (f (l + 1) = 43 ∨ f (l + 1) = 45)) = true then l + 1 + 1 else l + 1) := hide (by simp only [sg, decide_eq_true_eq])
                have hsg := sg_le f n (l + 1) (by omega)
                have hsk := skip_le f n _ hsg.2
                have H31 := hide (c31 f g o n c (sg f n (l + 1)) w hn hsg.2 (unhide HS))
                generalize sg f n (l + 1) = t at *
                generalize skip f n t = m at *
                go_upto_region 16 with fail
                go_cut [97] (fun s wx => w = wx ∧ s = .bool (decide (l + 1 < n ∧ (f (l + 1) = 43 ∨ f (l + 1) = 45))))
                case first =>
                  by_cases hl1 : l + 1 < n
                  · have cl := (unhide HS).cell (l + 1) hl1
                    by_cases h1 : f (l + 1) = 43
                    · have hb : (f (l + 1) == 43) = true := beq_iff_eq.2 h1
                      have H1 := hide h1
                      clear h1
                      go_wp2
                      go_meet
                      case rel => exact ⟨rfl, by rw [decide_eq_true ⟨hl1, .inl (unhide H1)⟩]⟩
                    · have hb : (f (l + 1) == 43) = false := beq_eq_false_iff_ne.2 h1
                      go_wp2
                      go_meet
                      case rel => exact ⟨rfl, by rw [← tst2 hl1, hb]; rfl⟩
                  · go_wp2
                    go_meet
                    case rel => exact ⟨rfl, by rw [decide_eq_false (fun q => hl1 q.1)]⟩
                case rest =>
                  obtain ⟨rfl, rfl⟩ := hcut
                  generalize decide (l + 1 < n ∧ (f (l + 1) = 43 ∨ f (l + 1) = 45)) = B at *
                  cases B with
                  | false =>
                    have ht : t = l + 1 := unhide HSG
                    clear HSG
                    subst ht
                    rw [show ((l + 1 : Nat) : Int) = (l : Int) + 1 from rfl] at H31
                    obtain ⟨hsg1, hsg2⟩ := hsg
                    by_cases hm : m = l + 1
                    · have hb : ((m : Int) == (l : Int) + 1) = true := beq_iff_eq.2 (by omega)
                      have HC6 := hide ((unhide HC5).trans (if_pos hm))
                      clear HC5 hm
                      go_wp2_with (go_at_call 31; refine (unhide H31).mono ?_; rintro e w' ⟨rfl, hww⟩; replace hww := hww.symm; subst hww)
                      go_ret
                      exact ⟨ret_int (unhide HC6).symm, rfl⟩
                    · have hb : ((m : Int) == (l : Int) + 1) = false := beq_eq_false_iff_ne.2 (by omega)
                      have HC6 := hide ((unhide HC5).trans (if_neg hm))
                      clear HC5
                      go_wp2_with (go_at_call 31; refine (unhide H31).mono ?_; rintro e w' ⟨rfl, hww⟩; replace hww := hww.symm; subst hww)
                      go_ret
                      exact ⟨ret_int (unhide HC6).symm, rfl⟩
                  | true =>
                    have ht : t = l + 1 + 1 := unhide HSG
                    clear HSG
                    subst ht
                    rw [show ((l + 1 + 1 : Nat) : Int) = (l : Int) + 1 + 1 from rfl] at H31
                    obtain ⟨hsg1, hsg2⟩ := hsg
                    by_cases hm : m = l + 1 + 1
                    · have hb : ((m : Int) == (l : Int) + 1 + 1) = true := beq_iff_eq.2 (by omega)
                      have HC6 := hide ((unhide HC5).trans (if_pos hm))
                      clear HC5 hm
                      go_wp2_with (go_at_call 31; refine (unhide H31).mono ?_; rintro e w' ⟨rfl, hww⟩; replace hww := hww.symm; subst hww)
                      go_ret
                      exact ⟨ret_int (unhide HC6).symm, rfl⟩
                    · have hb : ((m : Int) == (l : Int) + 1 + 1) = false := beq_eq_false_iff_ne.2 (by omega)
                      have HC6 := hide ((unhide HC5).trans (if_neg hm))
                      clear HC5
                      go_wp2_with (go_at_call 31; refine (unhide H31).mono ?_; rintro e w' ⟨rfl, hww⟩; replace hww := hww.symm; subst hww)
                      go_ret
                      exact ⟨ret_int (unhide HC6).symm, rfl⟩

theorem c13 (f : Nat → Int) (g o n c i : Nat) (w : World) (hn : n ≤ 1048576) (hi : i < n) (hs : Src f w g o n) :
    Calls Try.prog 13 #[.slice (some ⟨g, o, none⟩) n c, .int .i64 (i : Int)] w fun e w' => e = .returned (.int .i64 (chk f n i)) ∧ w' = w := by
  have H26 := hide (c26 f g o n c i w hn hi hs)
  clear hs
  go_enter Try.func13, Try.ntmps13
  go_wp2_with (go_at_call 26; refine (unhide H26).mono ?_; rintro e w' ⟨rfl, hww⟩; replace hww := hww.symm; subst hww)
  go_ret
  exact ⟨rfl, rfl⟩
end Go.Proofs.Qxb6600066a.num
