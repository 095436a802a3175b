/- A slice of fields (four cells each) in a block of the call's own. -/
import Derived.Test.Qxb6600066aMem
import Derived.Test.Qxb6600066aPerm
import Derived.Deep.Draws
namespace Go.Proofs.Qxb6600066a.sort
open Go.RowKit Go.Proofs.Qxb6600066a.mem

/-- The slice of fields in block g: element j is field number p j: (I q, W q, T q, nil). -/
structure FS (I W T : Nat → Int) (w : World) (g n : Nat) (p : Nat → Nat) : Prop where
  c0 : ∀ j, j < n → w.cell? ⟨g, j * 4, none⟩ = some (.int .i64 (I (p j)))
  c1 : ∀ j, j < n → w.cell? ⟨g, j * 4 + 1, none⟩ = some (.int .u8 (W (p j)))
  c2 : ∀ j, j < n → w.cell? ⟨g, j * 4 + 2, none⟩ = some (.int .u64 (T (p j)))
  c3 : ∀ j, j < n → w.cell? ⟨g, j * 4 + 3, none⟩ = some (.slice none 0 0)
  free : ∀ j, w.frozen? ⟨g, j, none⟩ = false

theorem FS.drewN {I W T : Nat → Int} {w : World} {g n : Nat} {p : Nat → Nat} (h : FS I W T w g n p) (m : Nat) : FS I W T (w.drewN m) g n p := ⟨h.c0, h.c1, h.c2, h.c3, h.free⟩
theorem below_drewN {B : Nat} {a w : World} (h : Below B a w) (m : Nat) : Below B a (w.drewN m) := ⟨h.os, h.tape, h.output, h.size, h.block⟩

theorem FS.congr {I W T : Nat → Int} {w : World} {g n : Nat} {p p' : Nat → Nat} (h : FS I W T w g n p) (he : ∀ j, j < n → p j = p' j) : FS I W T w g n p' :=
  ⟨fun j hj => by rw [← he j hj]; exact h.c0 j hj, fun j hj => by rw [← he j hj]; exact h.c1 j hj, fun j hj => by rw [← he j hj]; exact h.c2 j hj, h.c3, h.free⟩

theorem FS.below {I W T : Nat → Int} {w w' : World} {B g n : Nat} {p : Nat → Nat} (h : FS I W T w g n p) (hb : Below B w w') (hg : g < B) : FS I W T w' g n p :=
  ⟨fun j hj => (hb.cell (p := ⟨g, _, none⟩) hg).trans (h.c0 j hj), fun j hj => (hb.cell (p := ⟨g, _, none⟩) hg).trans (h.c1 j hj), fun j hj => (hb.cell (p := ⟨g, _, none⟩) hg).trans (h.c2 j hj),
    fun j hj => (hb.cell (p := ⟨g, _, none⟩) hg).trans (h.c3 j hj), fun j => (hb.frozen (p := ⟨g, _, none⟩) hg).trans (h.free j)⟩

/-- Four cells from o on are stored. -/
def set4 (w : World) (g o : Nat) (v0 v1 v2 v3 : Value) : World := (((w.setCell ⟨g, o, none⟩ v0).setCell ⟨g, o + 1, none⟩ v1).setCell ⟨g, o + 2, none⟩ v2).setCell ⟨g, o + 3, none⟩ v3

theorem set4_out (w : World) (g o : Nat) (v0 v1 v2 v3 : Value) (a : Addr) (h : a.block ≠ g ∨ a.off < o ∨ o + 4 ≤ a.off) : (set4 w g o v0 v1 v2 v3).cell? a = w.cell? a := by
  have ne : ∀ d, d < 4 → (⟨g, o + d, none⟩ : Addr) ≠ a := by
    intro d hd e
    subst e
    simp at h
    omega
  unfold set4
  rw [World.cell?_setCell_other _ _ _ _ (ne 3 (by omega)), World.cell?_setCell_other _ _ _ _ (ne 2 (by omega)), World.cell?_setCell_other _ _ _ _ (ne 1 (by omega)), World.cell?_setCell_other _ ⟨g, o, none⟩ _ _ (ne 0 (by omega))]

theorem ne_off {g a b : Nat} (h : a ≠ b) : (⟨g, a, none⟩ : Addr) ≠ ⟨g, b, none⟩ := fun e => h (congrArg Addr.off e)

theorem set4_in (w : World) (g o : Nat) (v0 v1 v2 v3 u0 u1 u2 u3 : Value) (h0 : w.cell? ⟨g, o, none⟩ = some u0) (h1 : w.cell? ⟨g, o + 1, none⟩ = some u1) (h2 : w.cell? ⟨g, o + 2, none⟩ = some u2) (h3 : w.cell? ⟨g, o + 3, none⟩ = some u3) :
    (set4 w g o v0 v1 v2 v3).cell? ⟨g, o, none⟩ = some v0 ∧ (set4 w g o v0 v1 v2 v3).cell? ⟨g, o + 1, none⟩ = some v1 ∧ (set4 w g o v0 v1 v2 v3).cell? ⟨g, o + 2, none⟩ = some v2 ∧ (set4 w g o v0 v1 v2 v3).cell? ⟨g, o + 3, none⟩ = some v3 := by
  unfold set4
  refine ⟨?_, ?_, ?_, ?_⟩
  · rw [World.cell?_setCell_other _ _ _ _ (ne_off (by omega)), World.cell?_setCell_other _ _ _ _ (ne_off (by omega)), World.cell?_setCell_other _ _ _ _ (ne_off (by omega))]
    exact World.cell?_setCell_same _ _ _ h0
  · rw [World.cell?_setCell_other _ _ _ _ (ne_off (by omega)), World.cell?_setCell_other _ _ _ _ (ne_off (by omega))]
    refine World.cell?_setCell_same _ _ _ (u := u1) ?_
    rw [World.cell?_setCell_other _ _ _ _ (ne_off (by omega))]; exact h1
  · rw [World.cell?_setCell_other _ _ _ _ (ne_off (by omega))]
    refine World.cell?_setCell_same _ _ _ (u := u2) ?_
    rw [World.cell?_setCell_other _ _ _ _ (ne_off (by omega)), World.cell?_setCell_other _ _ _ _ (ne_off (by omega))]; exact h2
  · refine World.cell?_setCell_same _ _ _ (u := u3) ?_
    rw [World.cell?_setCell_other _ _ _ _ (ne_off (by omega)), World.cell?_setCell_other _ _ _ _ (ne_off (by omega)), World.cell?_setCell_other _ _ _ _ (ne_off (by omega))]; exact h3

theorem set4_free (w : World) (g o : Nat) (v0 v1 v2 v3 : Value) (a : Addr) : (set4 w g o v0 v1 v2 v3).frozen? a = w.frozen? a := by
  unfold set4; simp

theorem set4_below {B : Nat} {a w : World} (h : Below B a w) {g : Nat} (hg : B ≤ g) (o : Nat) (v0 v1 v2 v3 : Value) : Below B a (set4 w g o v0 v1 v2 v3) :=
  (((h.setCell (p := ⟨g, o, none⟩) hg v0).setCell (p := ⟨g, o + 1, none⟩) hg v1).setCell (p := ⟨g, o + 2, none⟩) hg v2).setCell (p := ⟨g, o + 3, none⟩) hg v3

theorem FS.put {I W T : Nat → Int} {w : World} {g n : Nat} {p : Nat → Nat} (h : FS I W T w g n p) {j : Nat} (hj : j < n) (r : Nat) :
    FS I W T (set4 w g (j * 4) (.int .i64 (I r)) (.int .u8 (W r)) (.int .u64 (T r)) (.slice none 0 0)) g n (fun i => if i = j then r else p i) := by
  obtain ⟨s0, s1, s2, s3⟩ := set4_in w g (j * 4) (.int .i64 (I r)) (.int .u8 (W r)) (.int .u64 (T r)) (.slice none 0 0) _ _ _ _ (h.c0 j hj) (h.c1 j hj) (h.c2 j hj) (h.c3 j hj)
  have out : ∀ i d, i ≠ j → d < 4 → (set4 w g (j * 4) (.int .i64 (I r)) (.int .u8 (W r)) (.int .u64 (T r)) (.slice none 0 0)).cell? ⟨g, i * 4 + d, none⟩ = w.cell? ⟨g, i * 4 + d, none⟩ :=
    fun i d hi hd => set4_out _ _ _ _ _ _ _ _ (.inr (by show i * 4 + d < j * 4 ∨ j * 4 + 4 ≤ i * 4 + d; omega))
  refine ⟨fun i hi => ?_, fun i hi => ?_, fun i hi => ?_, fun i hi => ?_, fun i => (set4_free _ _ _ _ _ _ _ _).trans (h.free i)⟩
  all_goals by_cases e : i = j
  · subst e; rw [s0, if_pos rfl]
  · rw [if_neg e]; exact (out i 0 e (by omega)).trans (h.c0 i hi)
  · subst e; rw [s1, if_pos rfl]
  · rw [if_neg e]; exact (out i 1 e (by omega)).trans (h.c1 i hi)
  · subst e; rw [s2, if_pos rfl]
  · rw [if_neg e]; exact (out i 2 e (by omega)).trans (h.c2 i hi)
  · subst e; exact s3
  · exact (out i 3 e (by omega)).trans (h.c3 i hi)

/-- The box of one field: block g, four cells. -/
structure Box (I W T : Nat → Int) (w : World) (g q : Nat) : Prop where
  c0 : w.cell? ⟨g, 0, none⟩ = some (.int .i64 (I q))
  c1 : w.cell? ⟨g, 1, none⟩ = some (.int .u8 (W q))
  c2 : w.cell? ⟨g, 2, none⟩ = some (.int .u64 (T q))
  c3 : w.cell? ⟨g, 3, none⟩ = some (.slice none 0 0)
theorem Box.drewN {I W T : Nat → Int} {w : World} {g q : Nat} (h : Box I W T w g q) (m : Nat) : Box I W T (w.drewN m) g q := ⟨h.c0, h.c1, h.c2, h.c3⟩
theorem Box.set4 {I W T : Nat → Int} {w : World} {g q : Nat} (h : Box I W T w g q) {g' : Nat} (hg : g ≠ g') (o : Nat) (v0 v1 v2 v3 : Value) : Box I W T (set4 w g' o v0 v1 v2 v3) g q :=
  ⟨(set4_out _ _ _ _ _ _ _ _ (.inl hg)).trans h.c0, (set4_out _ _ _ _ _ _ _ _ (.inl hg)).trans h.c1, (set4_out _ _ _ _ _ _ _ _ (.inl hg)).trans h.c2, (set4_out _ _ _ _ _ _ _ _ (.inl hg)).trans h.c3⟩
end Go.Proofs.Qxb6600066a.sort
