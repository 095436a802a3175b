/- Memory that the call itself makes, cell by cell: 'Blk w g n f': the first n cells of block g hold f 0, f 1, .., and no cell of it is frozen. -/
import Derived.Test.Qxb6600066aRows
import Derived.WalkKit
import Derived.Below
import Derived.Laws.IdiomCopy
namespace Go.Proofs.Qxb6600066a.mem
open Go.RowKit

theorem hide {p : Prop} (h : p) : Hid p := h
theorem unhide {p : Prop} (h : Hid p) : p := h

structure Blk (w : World) (g n : Nat) (f : Nat → Value) : Prop where
  cell : ∀ j, j < n → w.cell? ⟨g, j, none⟩ = some (f j)
  free : ∀ j, w.frozen? ⟨g, j, none⟩ = false

theorem Blk.drew {w : World} {g n : Nat} {f : Nat → Value} (h : Blk w g n f) : Blk w.drew g n f := ⟨h.cell, h.free⟩
theorem Blk.below {w w' : World} {B g n : Nat} {f : Nat → Value} (h : Blk w g n f) (hb : Below B w w') (hg : g < B) : Blk w' g n f :=
  ⟨fun j hj => by rw [hb.cell (p := ⟨g, j, none⟩) hg]; exact h.cell j hj, fun j => by rw [hb.frozen (p := ⟨g, j, none⟩) hg]; exact h.free j⟩
theorem Blk.alloc {w : World} {g n : Nat} {f : Nat → Value} (h : Blk w g n f) (hg : g < w.heap.size) (o : Obj) : Blk (w.alloc o) g n f :=
  h.below ((Below.refl _ _).alloc (Nat.le_refl _) o) hg
theorem Blk.congr {w : World} {g n : Nat} {f f' : Nat → Value} (h : Blk w g n f) (he : ∀ j, j < n → f j = f' j) : Blk w g n f' :=
  ⟨fun j hj => by rw [← he j hj]; exact h.cell j hj, h.free⟩
theorem Blk.set {w : World} {g n : Nat} {f : Nat → Value} (h : Blk w g n f) {k : Nat} (hk : k < n) (v : Value) :
    Blk (w.setCell ⟨g, k, none⟩ v) g n (fun j => if j = k then v else f j) := by
  refine ⟨fun j hj => ?_, fun j => by rw [World.frozen?_setCell]; exact h.free j⟩
  by_cases e : j = k
  · subst e
    rw [if_pos rfl]
    exact World.cell?_setCell_same w _ v (h.cell j hj)
  · rw [if_neg e, World.cell?_setCell_other w _ _ v (fun q => e (congrArg Addr.off q).symm)]
    exact h.cell j hj
theorem Blk.other {w : World} {g n : Nat} {f : Nat → Value} (h : Blk w g n f) {a : Addr} (ha : a.block ≠ g) (v : Value) : Blk (w.setCell a v) g n f := by
  refine ⟨fun j hj => ?_, fun j => by rw [World.frozen?_setCell]; exact h.free j⟩
  rw [World.cell?_setCell_other w _ _ v (by intro q; subst q; exact ha rfl)]
  exact h.cell j hj

theorem madeCells_one (z : Value) (n j : Nat) (hj : j < n) : (madeCells #[z] n)[j]? = some z := by
  simp [madeCells, hj, Nat.mod_one]

theorem Blk.made (w : World) (z : Value) (n : Nat) (e : TypeId) : Blk (w.alloc (.cells (madeCells #[z] n) e)) w.heap.size n (fun _ => z) := by
  refine ⟨fun j hj => ?_, fun j => ?_⟩
  · rw [World.cell?_alloc_new]; exact madeCells_one z n j hj
  · simp

end Go.Proofs.Qxb6600066a.mem
