/- The contracts of cloneBytes and cloneInts on a slice that is not nil. -/
import Derived.Test.Qxb6600066aMem
import Derived.WalkKit
import Derived.ProofKit
import Derived.Below
import Derived.Lib.BufferMore
namespace Go.Proofs.Qxb6600066a.clone
open Go.ChangeShapes Go.WideShapes Go.ChangeAt Go.RowKit Go.Proofs.Qxb6600066a.mem
set_option linter.unusedVariables false

theorem info5 : (Try.prog.info? 5).map (fun i => (i.zero, i.size, i.bytes)) = some (some (.int .u8 0), 1, 1) := by kernel_rfl
theorem info3 : (Try.prog.info? 3).map (fun i => (i.zero, i.size, i.bytes)) = some (some (.int .i64 0), 1, 8) := by kernel_rfl

theorem make22 (n : Nat) (hn : n ≤ 1048576) (w : World) : (Instr.makeSlice 22 (.int .i64 (n : Int)) (.int .i64 (n : Int))).run Try.prog w = .ok (.slice (some ⟨w.heap.size, 0, none⟩) n n) (w.alloc (.cells (madeCells #[.int .u8 0] n) 5)) := by
  obtain ⟨i0, hi, hz0, hz1, hz2⟩ := info_parts info5
  have h := run_make (P := Try.prog) w 22 5 i0 (.int .u8 0) Try.underlying22 hi hz0 .i64 .i64 (n : Int) (n : Int) (by omega) (by omega) (by rw [hz2]; omega) (by omega)
  rw [hz1] at h
  simpa [Value.cells] using h

set_option maxHeartbeats 400000 in
theorem c12 (x : Addr) (len cap : Nat) (zs : Nat → Int) (w : World) (hlen : len ≤ 1048576) (hc : ∀ i, i < len → w.cell? (x.add i) = some (.int .u8 (zs i))) :
    Calls Try.prog 12 #[.slice (some x) len cap] w fun e w' => e = .returned (.slice (some ⟨w.heap.size, 0, none⟩) len len) ∧ Below w.heap.size w w' ∧ w'.heap.size = w.heap.size + 1 ∧ Blk w' w.heap.size len (fun i => .int .u8 (zs i)) := by
  obtain ⟨b, off, sp⟩ := x
  have HC := hide hc
  clear hc
  have hmk := make22 len hlen
  have hnil : ∀ W, (binOp .eql 22 (.slice (some ⟨b, off, sp⟩) len cap) (.slice none 0 0)).run Try.prog W = .ok (.bool false) W := fun W => Lib.run_eql_slice_some_nil W _ _ _ Try.underlying22
  go_enter Try.func12, Try.ntmps12
  go_wp2
  go_loopw [4] (fun i wr => ∃ k : Nat, k ≤ len ∧ i = .int .i64 k ∧ Below w.heap.size w wr ∧ wr.heap.size = w.heap.size + 1 ∧ Blk wr w.heap.size len (fun j => if j < k then .int .u8 (zs j) else .int .u8 0)) (fun i _ => len - (intOf i).toNat)
  case atStart => exact ⟨0, Nat.zero_le _, rfl, (Below.refl _ _).alloc (Nat.le_refl _) _, by simp, by simpa using Blk.made w (.int .u8 0) len 5⟩
  case round =>
    obtain ⟨k, hk, rfl, hbel, hsz, hblk⟩ := hrel
    have HB := hide hbel
    have HK := hide hblk
    clear hbel hblk
    by_cases hlt : k < len
    · have hsp : sp = none := by simpa [Addr.add] using World.cell?_spot (unhide HC 0 (by omega))
      subst hsp
      have hck := unhide HC k hlt
      rw [add_plain] at hck
      have hck' : wr.cell? ⟨b, off + k, none⟩ = some (.int .u8 (zs k)) := by
        rw [(unhide HB).cell (p := ⟨b, off + k, none⟩) (World.block_lt_of_cell? _ _ hck)]; exact hck
      have hcz : wr.cell? ⟨w.heap.size, k, none⟩ = some (.int .u8 0) := by
        rw [(unhide HK).cell k hlt, if_neg (Nat.lt_irrefl k)]
      have hfz : wr.frozen? ⟨w.heap.size, k, none⟩ = false := (unhide HK).free k
      clear hck
      go_wp2
      refine ⟨⟨k + 1, by omega, by go_num, (unhide HB).setCell (Nat.le_refl _) _, by simpa using hsz, ?_⟩, by simp [intOf]; omega⟩
      refine ((unhide HK).set hlt _).congr fun j hj => ?_
      by_cases e : j = k
      · subst e; rw [if_pos rfl, if_pos (by omega)]
      · rw [if_neg e]
        by_cases h2 : j < k
        · rw [if_pos h2, if_pos (by omega)]
        · rw [if_neg h2, if_neg (by omega)]
    · go_wp2
      go_ret
      refine ⟨rfl, unhide HB, hsz, (unhide HK).congr fun j hj => if_pos (by omega)⟩
theorem make26 (n : Nat) (hn : n ≤ 1048576) (w : World) : (Instr.makeSlice 26 (.int .i64 (n : Int)) (.int .i64 (n : Int))).run Try.prog w = .ok (.slice (some ⟨w.heap.size, 0, none⟩) n n) (w.alloc (.cells (madeCells #[.int .i64 0] n) 3)) := by
  obtain ⟨i0, hi, hz0, hz1, hz2⟩ := info_parts info3
  have h := run_make (P := Try.prog) w 26 3 i0 (.int .i64 0) Try.underlying26 hi hz0 .i64 .i64 (n : Int) (n : Int) (by omega) (by omega) (by rw [hz2]; omega) (by omega)
  rw [hz1] at h
  simpa [Value.cells] using h

set_option maxHeartbeats 400000 in
theorem c18 (x : Addr) (len cap : Nat) (zs : Nat → Int) (w : World) (hlen : len ≤ 1048576) (hc : ∀ i, i < len → w.cell? (x.add i) = some (.int .i64 (zs i))) :
    Calls Try.prog 18 #[.slice (some x) len cap] w fun e w' => e = .returned (.slice (some ⟨w.heap.size, 0, none⟩) len len) ∧ Below w.heap.size w w' ∧ w'.heap.size = w.heap.size + 1 ∧ Blk w' w.heap.size len (fun i => .int .i64 (zs i)) := by
  obtain ⟨b, off, sp⟩ := x
  have HC := hide hc
  clear hc
  have hmk := make26 len hlen
  have hnil : ∀ W, (binOp .eql 26 (.slice (some ⟨b, off, sp⟩) len cap) (.slice none 0 0)).run Try.prog W = .ok (.bool false) W := fun W => Lib.run_eql_slice_some_nil W _ _ _ Try.underlying26
  go_enter Try.func18, Try.ntmps18
  go_wp2
  go_loopw [4] (fun i wr => ∃ k : Nat, k ≤ len ∧ i = .int .i64 k ∧ Below w.heap.size w wr ∧ wr.heap.size = w.heap.size + 1 ∧ Blk wr w.heap.size len (fun j => if j < k then .int .i64 (zs j) else .int .i64 0)) (fun i _ => len - (intOf i).toNat)
  case atStart => exact ⟨0, Nat.zero_le _, rfl, (Below.refl _ _).alloc (Nat.le_refl _) _, by simp, by simpa using Blk.made w (.int .i64 0) len 3⟩
  case round =>
    obtain ⟨k, hk, rfl, hbel, hsz, hblk⟩ := hrel
    have HB := hide hbel
    have HK := hide hblk
    clear hbel hblk
    by_cases hlt : k < len
    · have hsp : sp = none := by simpa [Addr.add] using World.cell?_spot (unhide HC 0 (by omega))
      subst hsp
      have hck := unhide HC k hlt
      rw [add_plain] at hck
      have hck' : wr.cell? ⟨b, off + k, none⟩ = some (.int .i64 (zs k)) := by
        rw [(unhide HB).cell (p := ⟨b, off + k, none⟩) (World.block_lt_of_cell? _ _ hck)]; exact hck
      have hcz : wr.cell? ⟨w.heap.size, k, none⟩ = some (.int .i64 0) := by
        rw [(unhide HK).cell k hlt, if_neg (Nat.lt_irrefl k)]
      have hfz : wr.frozen? ⟨w.heap.size, k, none⟩ = false := (unhide HK).free k
      clear hck
      go_wp2
      refine ⟨⟨k + 1, by omega, by go_num, (unhide HB).setCell (Nat.le_refl _) _, by simpa using hsz, ?_⟩, by simp [intOf]; omega⟩
      refine ((unhide HK).set hlt _).congr fun j hj => ?_
      by_cases e : j = k
      · subst e; rw [if_pos rfl, if_pos (by omega)]
      · rw [if_neg e]
        by_cases h2 : j < k
        · rw [if_pos h2, if_pos (by omega)]
        · rw [if_neg h2, if_neg (by omega)]
    · go_wp2
      go_ret
      refine ⟨rfl, unhide HB, hsz, (unhide HK).congr fun j hj => if_pos (by omega)⟩
end Go.Proofs.Qxb6600066a.clone
