/- The contract of ZZSortByIndex. -/
import Derived.Test.Qxb6600066aSort29
import Derived.Test.Qxb6600066aClone
import Derived.WalkKit
import Derived.ProofKit
import Derived.Below
namespace Go.Proofs.Qxb6600066a.sort
open Go.ChangeShapes Go.WideShapes Go.ChangeAt Go.RowKit Go.Proofs.Qxb6600066a.mem Go.Proofs.Qxb6600066a.perm Go.Proofs.Qxb6600066a.clone
set_option linter.unusedVariables false

theorem info30 : (Try.prog.info? 30).map (fun i => (i.zero, i.size, i.bytes)) = some (some (.int .u64 0), 1, 8) := by kernel_rfl
theorem info52 : (Try.prog.info? 52).map (fun i => (i.zero, i.size, i.bytes)) = some (some (.agg #[.int .i64 0, .int .u8 0, .int .u64 0, .slice none 0 0]), 4, 48) := by kernel_rfl

theorem make29 (n : Nat) (hn : n ≤ 1048576) (w : World) : (Instr.makeSlice 29 (.int .i64 (n : Int)) (.int .i64 (n : Int))).run Try.prog w = .ok (.slice (some ⟨w.heap.size, 0, none⟩) n n) (w.alloc (.cells (madeCells #[.int .u64 0] n) 30)) := by
  obtain ⟨i0, hi, hz0, hz1, hz2⟩ := info_parts info30
  have h := run_make (P := Try.prog) w 29 30 i0 (.int .u64 0) Try.underlying29 hi hz0 .i64 .i64 (n : Int) (n : Int) (by omega) (by omega) (by rw [hz2]; omega) (by omega)
  rw [hz1] at h
  simpa [Value.cells] using h

def zeros (n : Nat) : Array Value := madeCells #[.int .i64 0, .int .u8 0, .int .u64 0, .slice none 0 0] (n * 4)

theorem make50 (n : Nat) (hn : n ≤ 1048576) (w : World) : (Instr.makeSlice 50 (.int .i64 (n : Int)) (.int .i64 (n : Int))).run Try.prog w = .ok (.slice (some ⟨w.heap.size, 0, none⟩) n n) (w.alloc (.cells (zeros n) 52)) := by
  obtain ⟨i0, hi, hz0, hz1, hz2⟩ := info_parts info52
  have h := run_make (P := Try.prog) w 50 52 i0 (.agg #[.int .i64 0, .int .u8 0, .int .u64 0, .slice none 0 0]) Try.underlying50 hi hz0 .i64 .i64 (n : Int) (n : Int) (by omega) (by omega) (by rw [hz2]; omega) (by omega)
  rw [hz1] at h
  simpa [Value.cells, zeros] using h

theorem zeros_at (n j d : Nat) (hj : j < n) (hd : d < 4) : (zeros n)[j * 4 + d]? = (#[.int .i64 0, .int .u8 0, .int .u64 0, .slice none 0 0] : Array Value)[d]? := by
  have h1 : j * 4 + d < n * 4 := by omega
  have h2 : (j * 4 + d) % 4 = d := by omega
  have h3 : (zeros n)[j * 4 + d]? = some ((#[.int .i64 0, .int .u8 0, .int .u64 0, .slice none 0 0] : Array Value)[(j * 4 + d) % 4]!) := by
    simp [zeros, madeCells, h1]
  rw [h3, h2]
  match d, hd with
  | 0, _ => rfl
  | 1, _ => rfl
  | 2, _ => rfl
  | 3, _ => rfl

/-- The first k numbers of a column, 0 behind them. -/
def upto (k : Nat) (f : Nat → Int) : Nat → Int := fun j => if j < k then f j else 0

theorem FS.made (I W T : Nat → Int) (w : World) (n : Nat) : FS (upto 0 I) (upto 0 W) (upto 0 T) (w.alloc (.cells (zeros n) 52)) w.heap.size n (fun i => i) := by
  refine ⟨fun j hj => ?_, fun j hj => ?_, fun j hj => ?_, fun j hj => ?_, fun j => by simp⟩
  · rw [World.cell?_alloc_new]; exact zeros_at n j 0 hj (by omega)
  · rw [World.cell?_alloc_new]; exact zeros_at n j 1 hj (by omega)
  · rw [World.cell?_alloc_new]; exact zeros_at n j 2 hj (by omega)
  · rw [World.cell?_alloc_new]; exact zeros_at n j 3 hj (by omega)

theorem upto_step (k : Nat) (f : Nat → Int) (j : Nat) : upto (k + 1) f j = if j = k then f k else upto k f j := by
  unfold upto
  by_cases h : j = k
  · subst h; rw [if_pos rfl, if_pos (by omega)]
  · rw [if_neg h]
    by_cases h2 : j < k
    · rw [if_pos h2, if_pos (by omega)]
    · rw [if_neg h2, if_neg (by omega)]

theorem blk_step {w : World} {g n l : Nat} {kd : IntKind} {f : Nat → Int} (h : Blk w g n (fun j => .int kd (upto l f j))) (hl : l < n) :
    Blk (w.setCell ⟨g, l, none⟩ (.int kd (f l))) g n (fun j => .int kd (upto (l + 1) f j)) :=
  (h.set hl _).congr fun j _ => by
    rw [upto_step]
    by_cases e : j = l
    · rw [if_pos e, if_pos e]
    · rw [if_neg e, if_neg e]
theorem blk_full {w : World} {g n : Nat} {kd : IntKind} {f : Nat → Int} (h : Blk w g n (fun j => .int kd (upto n f j))) : Blk w g n (fun j => .int kd (f j)) :=
  h.congr fun j hj => by unfold upto; rw [if_pos hj]
theorem blk_blank (w : World) (n : Nat) (e : TypeId) (kd : IntKind) (f : Nat → Int) : Blk (w.alloc (.cells (madeCells #[.int kd 0] n) e)) w.heap.size n (fun j => .int kd (upto 0 f j)) :=
  (Blk.made w (.int kd 0) n e).congr fun j _ => rfl

theorem FS.fill {I W T : Nat → Int} {w : World} {g n k : Nat} (h : FS (upto k I) (upto k W) (upto k T) w g n (fun i => i)) (hk : k < n) :
    FS (upto (k + 1) I) (upto (k + 1) W) (upto (k + 1) T) (((w.setCell ⟨g, k * 4, none⟩ (.int .i64 (I k))).setCell ⟨g, k * 4 + 1, none⟩ (.int .u8 (W k))).setCell ⟨g, k * 4 + 2, none⟩ (.int .u64 (T k))) g n (fun i => i) := by
  have out : ∀ i d, (i ≠ k ∨ d = 3) → d < 4 → (((w.setCell ⟨g, k * 4, none⟩ (.int .i64 (I k))).setCell ⟨g, k * 4 + 1, none⟩ (.int .u8 (W k))).setCell ⟨g, k * 4 + 2, none⟩ (.int .u64 (T k))).cell? ⟨g, i * 4 + d, none⟩ = w.cell? ⟨g, i * 4 + d, none⟩ := by
    intro i d hi hd
    rw [World.cell?_setCell_other _ _ _ _ (ne_off (by omega)), World.cell?_setCell_other _ _ _ _ (ne_off (by omega)), World.cell?_setCell_other _ _ _ _ (ne_off (by omega))]
  refine ⟨fun i hi => ?_, fun i hi => ?_, fun i hi => ?_, fun i hi => ?_, fun i => by simpa using h.free i⟩
  · rw [upto_step]
    by_cases e : i = k
    · subst e
      rw [if_pos rfl, World.cell?_setCell_other _ _ _ _ (ne_off (by omega)), World.cell?_setCell_other _ _ _ _ (ne_off (by omega))]
      exact World.cell?_setCell_same _ _ _ (h.c0 i hi)
    · rw [if_neg e]; exact (out i 0 (.inl e) (by omega)).trans (h.c0 i hi)
  · rw [upto_step]
    by_cases e : i = k
    · subst e
      rw [if_pos rfl, World.cell?_setCell_other _ _ _ _ (ne_off (by omega))]
      refine World.cell?_setCell_same _ _ _ ((World.cell?_setCell_other _ _ _ _ (ne_off (by omega))).trans (h.c1 i hi))
    · rw [if_neg e]; exact (out i 1 (.inl e) (by omega)).trans (h.c1 i hi)
  · rw [upto_step]
    by_cases e : i = k
    · subst e
      rw [if_pos rfl]
      refine World.cell?_setCell_same _ _ _ ((World.cell?_setCell_other _ _ _ _ (ne_off (by omega))).trans ((World.cell?_setCell_other _ _ _ _ (ne_off (by omega))).trans (h.c2 i hi)))
    · rw [if_neg e]; exact (out i 2 (.inl e) (by omega)).trans (h.c2 i hi)
  · exact (out i 3 (.inr rfl) (by omega)).trans (h.c3 i hi)

theorem FS.funs {I W T I' W' T' : Nat → Int} {w : World} {g n : Nat} (h : FS I W T w g n (fun i => i)) (h1 : ∀ j, j < n → I j = I' j) (h2 : ∀ j, j < n → W j = W' j) (h3 : ∀ j, j < n → T j = T' j) : FS I' W' T' w g n (fun i => i) :=
  ⟨fun j hj => by have := h.c0 j hj; simp only [h1 j hj] at this; exact this, fun j hj => by have := h.c1 j hj; simp only [h2 j hj] at this; exact this, fun j hj => by have := h.c2 j hj; simp only [h3 j hj] at this; exact this, h.c3, h.free⟩

set_option maxHeartbeats 1000000 in
theorem c19 (I W T : Nat → Int) (n gi gw gt : Nat) (ai : Option Addr) (w : World) (hn : n ≤ 4096) (hgw : gw < w.heap.size) (hgt : gt < w.heap.size)
    (hi : 0 < n → ai = some ⟨gi, 0, none⟩ ∧ gi < w.heap.size ∧ Blk w gi n (fun j => .int .i64 (I j)))
    (hw : Blk w gw n (fun j => .int .u8 (W j))) (ht : Blk w gt n (fun j => .int .u64 (T j))) :
    Calls Try.prog 19 #[.slice ai n n, .slice (some ⟨gw, 0, none⟩) n n, .slice (some ⟨gt, 0, none⟩) n n] w fun e w' =>
      ∃ s, e = .returned (.tuple #[.slice (some ⟨s, 0, none⟩) n n, .slice (some ⟨s + 1, 0, none⟩) n n, .slice (some ⟨s + 2, 0, none⟩) n n]) ∧ Below w.heap.size w w' ∧ w.heap.size ≤ s ∧
        ∃ p, Inv I n p ∧ Blk w' s n (fun j => .int .i64 (I (p j))) ∧ Blk w' (s + 1) n (fun j => .int .u8 (W (p j))) ∧ Blk w' (s + 2) n (fun j => .int .u64 (T (p j))) := by
  have HI := hide hi
  have HW := hide hw
  have HT := hide ht
  clear hi hw ht
  have m50 := make50 n (by omega)
  go_enter Try.func19, Try.ntmps19
  go_wp2
  go_loopw [10] (fun i wr => ∃ k : Nat, k ≤ n ∧ i = .int .i64 k ∧ Below w.heap.size w wr ∧ wr.heap.size = w.heap.size + 1 ∧ FS (upto k I) (upto k W) (upto k T) wr w.heap.size n (fun i => i)) (fun i _ => n - (intOf i).toNat)
  case atStart => exact ⟨0, Nat.zero_le _, rfl, (Below.refl _ _).alloc (Nat.le_refl _) _, by simp, FS.made I W T w n⟩
  case round =>
    obtain ⟨k, hk, rfl, hbel, hsz, hfs⟩ := hrel
    have HB := hide hbel
    have HF := hide hfs
    clear hbel hfs
    by_cases hlt : k < n
    · obtain ⟨rfl, hgi, hbi⟩ := unhide HI (by omega)
      have x0 := (hbi.below (unhide HB) hgi).cell k hlt
      have x1 := ((unhide HW).below (unhide HB) hgw).cell k hlt
      have x2 := ((unhide HT).below (unhide HB) hgt).cell k hlt
      have e0 := (unhide HF).c0 k hlt
      have e1 := (unhide HF).c1 k hlt
      have e2 := (unhide HF).c2 k hlt
      have f0 := (unhide HF).free (k * 4)
      have f1 := (unhide HF).free (k * 4 + 1)
      have f2 := (unhide HF).free (k * 4 + 2)
      clear hbi
      go_wp2
      exact ⟨⟨k + 1, by omega, by go_num, (((unhide HB).setCell (Nat.le_refl _) _).setCell (Nat.le_refl _) _).setCell (Nat.le_refl _) _, by simpa using hsz, (unhide HF).fill hlt⟩, by simp [intOf]; omega⟩
    · have hkn : k = n := by omega
      subst hkn
      clear hlt
      have HF1 := hide ((unhide HF).funs (I' := I) (W' := W) (T' := T) (fun j hj => if_pos hj) (fun j hj => if_pos hj) (fun j hj => if_pos hj))
      clear HF HI HW HT
      go_wp2_with fail
      refine (c29 I W T w.heap.size k wr hn (by omega) (unhide HF1)).mono ?_
      rintro e w2 ⟨rfl, hb2, p, hinv, hfs2⟩
      have HB2 := hide ((unhide HB).trans hb2)
      have HV := hide hinv
      have HF2 := hide hfs2
      have hs2 : w.heap.size < w2.heap.size := Nat.lt_of_lt_of_le (by omega) hb2.size
      clear hb2 hinv hfs2 HF1 HB hsz
      clear wr
      have m26 := make26 k (by omega)
      have m22 := make22 k (by omega)
      have m29 := make29 k (by omega)
      go_wp2
      go_loopw [14] (fun i wr => ∃ l : Nat, l ≤ k ∧ i = .int .i64 l ∧ Below w2.heap.size w2 wr ∧ wr.heap.size = w2.heap.size + 3 ∧
        Blk wr w2.heap.size k (fun j => .int .i64 (upto l (fun j => I (p j)) j)) ∧ Blk wr (w2.heap.size + 1) k (fun j => .int .u8 (upto l (fun j => W (p j)) j)) ∧ Blk wr (w2.heap.size + 2) k (fun j => .int .u64 (upto l (fun j => T (p j)) j))) (fun i _ => k - (intOf i).toNat)
      case atStart =>
        refine ⟨0, Nat.zero_le _, rfl, (((Below.refl _ _).alloc (Nat.le_refl _) _).alloc (by simp only [World.size_alloc]; omega) _).alloc (by simp only [World.size_alloc]; omega) _, by simp, ?_, ?_, ?_⟩
        · exact ((blk_blank w2 k 3 .i64 _).alloc (by simp only [World.size_alloc]; omega) _).alloc (by simp only [World.size_alloc]; omega) _
        · have := blk_blank (w2.alloc (.cells (madeCells #[.int .i64 0] k) 3)) k 5 .u8 (fun j => W (p j))
          rw [World.size_alloc] at this
          exact this.alloc (by simp only [World.size_alloc]; omega) _
        · have := blk_blank ((w2.alloc (.cells (madeCells #[.int .i64 0] k) 3)).alloc (.cells (madeCells #[.int .u8 0] k) 5)) k 30 .u64 (fun j => T (p j))
          rw [World.size_alloc, World.size_alloc] at this
          exact this
      case round =>
        obtain ⟨l, hl, rfl, hbel, hsz, k0, k1, k2⟩ := hrel
        have HB3 := hide hbel
        have K0 := hide k0
        have K1 := hide k1
        have K2 := hide k2
        clear hbel k0 k1 k2 m26 m22 m29
        by_cases hlt : l < k
        · have hfs3 := (unhide HF2).below (unhide HB3) hs2
          have x0 := hfs3.c0 l hlt
          have x1 := hfs3.c1 l hlt
          have x2 := hfs3.c2 l hlt
          have e0 := (unhide K0).cell l hlt
          have e1 := (unhide K1).cell l hlt
          have e2 := (unhide K2).cell l hlt
          have f0 := (unhide K0).free l
          have f1 := (unhide K1).free l
          have f2 := (unhide K2).free l
          clear hfs3
          go_wp2
          refine ⟨⟨l + 1, by omega, by go_num, (((unhide HB3).setCell (Nat.le_refl _) _).setCell (Nat.le_succ _) _).setCell (by show w2.heap.size ≤ w2.heap.size + 1 + 1; omega) _, by simpa using hsz, ?_, ?_, ?_⟩, by simp [intOf]; omega⟩
          · exact ((blk_step (f := fun j => I (p j)) (unhide K0) hlt).other (by show w2.heap.size + 1 ≠ w2.heap.size; omega) _).other (by show w2.heap.size + 1 + 1 ≠ w2.heap.size; omega) _
          · exact (blk_step (f := fun j => W (p j)) ((unhide K1).other (a := ⟨w2.heap.size, l, none⟩) (by show w2.heap.size ≠ w2.heap.size + 1; omega) _) hlt).other (by show w2.heap.size + 1 + 1 ≠ w2.heap.size + 1; omega) _
          · exact blk_step (f := fun j => T (p j)) (((unhide K2).other (a := ⟨w2.heap.size, l, none⟩) (by show w2.heap.size ≠ w2.heap.size + 2; omega) _).other (a := ⟨w2.heap.size + 1, l, none⟩) (by show w2.heap.size + 1 ≠ w2.heap.size + 2; omega) _) hlt
        · have hlk : l = k := by omega
          subst hlk
          go_wp2
          go_ret3
          exact ⟨w2.heap.size, rfl, (unhide HB2).trans ((unhide HB3).mono (Nat.le_of_lt hs2)), Nat.le_of_lt hs2, p, unhide HV, blk_full (f := fun j => I (p j)) (unhide K0), blk_full (f := fun j => W (p j)) (unhide K1), blk_full (f := fun j => T (p j)) (unhide K2)⟩
end Go.Proofs.Qxb6600066a.sort
