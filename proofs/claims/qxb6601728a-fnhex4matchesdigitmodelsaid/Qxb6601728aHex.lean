/- The contracts of hex4 and ZZHex4. -/
import Derived.Test.Qxb6601728aRows
import Derived.Test.Qxb6601728aHexLaw
import Derived.WalkKit
import Derived.ProofKit
import Derived.Below
import Derived.Laws.IdiomStrings
import Derived.Laws.DeepBits32
import Derived.Deep.QuietTactic
import Derived.BigQuiet
namespace Go.Proofs.Qxb6601728a.hex
open Go.ChangeShapes Go.WideShapes Go.ChangeAt Go.RowKit
set_option linter.unusedVariables false
theorem hide {p : Prop} (h : p) : Hid p := h
theorem unhide {p : Prop} (h : Hid p) : p := h

theorem ret_int {k : IntKind} {a b : Int} (h : a = b) : Ending.returned (.int k a) = .returned (.int k b) := by rw [h]

theorem below_drewN {B : Nat} {a w : World} (h : Below B a w) (m : Nat) : Below B a (w.drewN m) := ⟨h.os, h.tape, h.output, h.size, h.block⟩

theorem or_hex (a d : Int) (h1 : 0 ≤ a) (h2 : a < 65536) (h3 : 0 ≤ d) (h4 : d < 16) : bits .or .i32 (a * 16) d = a * 16 + d := by
  obtain ⟨A, rfl⟩ := Int.eq_ofNat_of_zero_le h1
  obtain ⟨D, rfl⟩ := Int.eq_ofNat_of_zero_le h3
  have e : (A * 16) ||| D = A * 16 + D := by
    have := Nat.shiftLeft_add_eq_or_of_lt (b := D) (i := 4) (by omega) A
    rw [Nat.shiftLeft_eq] at this
    exact this.symm
  show IntKind.i32.wrap ((BitVec.ofInt 32 ((A * 16 : Nat) : Int) ||| BitVec.ofInt 32 (D : Int)).toNat : Int) = _
  rw [BitVec.toNat_or, ofInt_u32 (A * 16) (by omega), ofInt_u32 D (by omega), e]
  exact wrap_i32_small _ (by omega) (by omega)
theorem step_eq (x : Nat → Int) (k : Nat) (v : Int) (h1 : 0 ≤ rd x k) (h2 : rd x k < 65536) (hv : hx (x k) = v) (h3 : 0 ≤ v) (h4 : v < 16) : Value.int .i32 (bits .or .i32 (rd x k * 16) v) = .int .i32 (rd x (k + 1)) := by
  rw [or_hex _ _ h1 h2 h3 h4, rd, hv]

/-- Byte k of a string, as a number. -/
def bt (s : ByteArray) (k : Nat) : Int := ((s.data.getD k 0).toNat : Int)
theorem bt_get (s : ByteArray) (k : Nat) (h : k < s.size) : ((s[k].toNat : Nat) : Int) = bt s k := by
  unfold bt
  have h' : k < s.data.size := h
  rw [Array.getD_eq_getD_getElem?, Array.getElem?_eq_getElem h']
  rfl
theorem bt_bd (s : ByteArray) (k : Nat) : 0 ≤ bt s k ∧ bt s k ≤ 255 := by
  unfold bt
  have := (s.data.getD k 0).toNat_lt
  omega
theorem bt_row (t : ByteArray) (cap j : Nat) (hj : j < t.size) : (bytesRow t cap)[j]? = some (.int .u8 (bt t j)) := by
  have h' : j < t.data.size := hj
  unfold bytesRow
  rw [Array.getElem?_append_left (by simpa using h'), Array.getElem?_map, Array.getElem?_eq_getElem h', ← bt_get t j hj]
  rfl
theorem bt_extract (s : ByteArray) (a b j : Nat) (hb : b ≤ s.size) (hj : a + j < b) : bt (s.extract a b) j = bt s (a + j) := by
  have h1 : j < (s.extract a b).size := by rw [ByteArray.size_extract]; omega
  rw [← bt_get _ j h1, ← bt_get s (a + j) (by omega), ByteArray.getElem_extract]

set_option maxRecDepth 100000 in
set_option maxHeartbeats 1000000 in
theorem c27_yes (s : ByteArray) (b i : Nat) (w : World) (hs : s.size ≤ 4194304) (hi : i + 6 ≤ s.size) (h0 : w.cell? ⟨b, 0, none⟩ = some (.string s)) (c0 : bt s i = 92) (c1 : bt s (i + 1) = 117) :
    Calls Try.prog 27 #[.pointer (some ⟨b, 0, none⟩), .int .i64 (i : Int)] w fun e w' => e = .returned (.int .i32 (val (fun j => bt s (i + 2 + j)))) ∧ Below w.heap.size w w' := by
  have d1 : decide ((s.size : Int) - (i : Int) < 6) = false := decide_eq_false (by omega)
  have d2 : ((s[i].toNat : Int) != 92) = false := by rw [bt_get s i (by omega), c0]; rfl
  have d3 : ((s[i+1].toNat : Int) != 117) = false := by rw [bt_get s (i + 1) (by omega), c1]; rfl
  have hcv := fun (w : World) (t : ByteArray) => run_bytes_of_string (P := Try.prog) w 9 41 5 t Try.underlying9 Try.underlying41 Try.underlying5
  have hsl : ∀ w, (Instr.slice 9 (.string s) (some (.int .i64 ((i : Int) + 2))) (some (.int .i64 ((i : Int) + 6))) none).run Try.prog w = .ok (.string (s.extract (i + 2) (i + 6))) w := fun w => run_slice_string (P := Try.prog) w 9 s .i64 .i64 ((i : Int) + 2) ((i : Int) + 6) Try.underlying9 (by omega) (by omega) (by omega)
  have hsz : (s.extract (i + 2) (i + 6)).size = 4 := by rw [ByteArray.size_extract]; omega
  obtain ⟨x, hx0⟩ : ∃ x : Nat → Int, x = fun j => bt s (i + 2 + j) := ⟨_, rfl⟩
  have HX := hide hx0
  have hbx : ∀ cap j, j < 4 → (bytesRow (s.extract (i + 2) (i + 6)) cap)[j]? = some (.int .u8 (x j)) := by
    intro cap j hj
    rw [bt_row _ cap j (by omega), bt_extract s (i + 2) (i + 6) j hi (by omega), hx0]
  have hxb : ∀ j, 0 ≤ x j ∧ x j ≤ 255 := fun j => by rw [hx0]; exact bt_bd _ _
  rw [← hx0]
  have HXB := hide hxb
  have HBX := hide hbx
  clear hx0 hxb hbx
  generalize s.extract (i + 2) (i + 6) = t at *
  clear c0 c1
  go_enter Try.func27, Try.ntmps27
  go_wp2
  have hcell : ∀ cap j, j < 4 → (w.alloc (.cells (bytesRow t cap) 5 ((bytesRow t cap).size, (bytesRow t cap).size + 1))).drew.cell? ⟨w.heap.size, j, none⟩ = some (.int .u8 (x j)) := by
    intro cap j hj
    rw [World.cell?_drew, World.cell?_alloc_mark]
    exact unhide HBX cap j hj
  have hbel : ∀ cap, Below w.heap.size w (w.alloc (.cells (bytesRow t cap) 5 ((bytesRow t cap).size, (bytesRow t cap).size + 1))).drew := fun cap => ((Below.refl _ _).alloc (Nat.le_refl _) _).drew
  have HC := hide (hcell (grownCap w 4 0 5))
  have HB := hide (hbel (grownCap w 4 0 5))
  clear hcell hbel hcv hsl HBX
  generalize grownCap w 4 0 5 = gc at *
  generalize (w.alloc (.cells (bytesRow t gc) 5 ((bytesRow t gc).size, (bytesRow t gc).size + 1))).drew = w1 at *
  go_loop [5, 46] (fun r i => ∃ k : Nat, k ≤ 4 ∧ i = .int .i64 (k : Int) ∧ r = .int .i32 (rd x k) ∧ good x k) (fun _ i => 4 - (intOf i).toNat)
  case atStart => exact ⟨0, by omega, rfl, rfl, fun j hj => by omega⟩
  case round =>
    obtain ⟨k, hk, rfl, rfl, hgood⟩ := hrel
    have hrd := rd_small x k hk hgood
    have HG := hide hgood
    clear hgood
    by_cases hlt : k < 4
    · have ck := unhide HC k hlt
      obtain ⟨x1, x2⟩ := unhide HXB k
      obtain ⟨r1, r2⟩ := hrd
      have c1 : (48 ≤ x k ∧ x k ≤ 57) ∨ (97 ≤ x k ∧ x k ≤ 102) ∨ (65 ≤ x k ∧ x k ≤ 70) ∨ x k < 48 ∨ (57 < x k ∧ x k < 65) ∨ (70 < x k ∧ x k < 97) ∨ 102 < x k := by omega
      rcases c1 with ⟨a1, a2⟩ | ⟨a1, a2⟩ | ⟨a1, a2⟩ | a1 | ⟨a1, a2⟩ | ⟨a1, a2⟩ | a1
      · have HV : Hid (hx (x k) = x k - 48) := hide (by unfold hx; rw [if_pos (by omega)])
        go_wp2
        exact ⟨⟨k + 1, by omega, by go_num, step_eq x k _ r1 r2 (unhide HV) (by omega) (by omega), good_succ (unhide HG) (by rw [unhide HV]; omega)⟩, by simp [intOf]; omega⟩
      · have HV : Hid (hx (x k) = x k - 87) := hide (by unfold hx; rw [if_neg (by omega), if_pos (by omega)])
        go_wp2
        exact ⟨⟨k + 1, by omega, by go_num, step_eq x k _ r1 r2 (by rw [unhide HV]; omega) (by omega) (by omega), good_succ (unhide HG) (by rw [unhide HV]; omega)⟩, by simp [intOf]; omega⟩
      · have HV : Hid (hx (x k) = x k - 55) := hide (by unfold hx; rw [if_neg (by omega), if_neg (by omega), if_pos (by omega)])
        go_wp2
        exact ⟨⟨k + 1, by omega, by go_num, step_eq x k _ r1 r2 (by rw [unhide HV]; omega) (by omega) (by omega), good_succ (unhide HG) (by rw [unhide HV]; omega)⟩, by simp [intOf]; omega⟩
      all_goals
        have HV : Hid (hx (x k) = -1) := hide (by unfold hx; rw [if_neg (by omega), if_neg (by omega), if_neg (by omega)])
        go_wp2
        go_ret
        exact ⟨ret_int (val_bad x k hlt (unhide HV)).symm, unhide HB⟩
    · have hk4 : k = 4 := by omega
      subst hk4
      go_wp2
      go_ret
      exact ⟨ret_int (val_good x (unhide HG)).symm, unhide HB⟩

/-- What hex4 answers at i. -/
def h4 (s : ByteArray) (i : Nat) : Int := if i + 6 ≤ s.size ∧ bt s i = 92 ∧ bt s (i + 1) = 117 then val (fun j => bt s (i + 2 + j)) else -1

set_option maxRecDepth 100000 in
set_option maxHeartbeats 1000000 in
theorem c27_no (s : ByteArray) (b i : Nat) (w : World) (hs : s.size ≤ 4194304) (him : i ≤ 9223372036854775807) (hi : ¬ (i + 6 ≤ s.size ∧ bt s i = 92 ∧ bt s (i + 1) = 117)) (h0 : w.cell? ⟨b, 0, none⟩ = some (.string s)) :
    Calls Try.prog 27 #[.pointer (some ⟨b, 0, none⟩), .int .i64 (i : Int)] w fun e w' => e = .returned (.int .i32 (-1)) ∧ Below w.heap.size w w' := by
  by_cases h1 : i + 6 ≤ s.size
  · have d1 : decide ((s.size : Int) - (i : Int) < 6) = false := decide_eq_false (by omega)
    by_cases c0 : bt s i = 92
    · have c1 : ¬ bt s (i + 1) = 117 := fun q => hi ⟨h1, c0, q⟩
      have d2 : ((s[i].toNat : Int) != 92) = false := by rw [bt_get s i (by omega), c0]; rfl
      have d3 : ((s[i+1].toNat : Int) != 117) = true := by rw [bt_get s (i + 1) (by omega), bne_iff_ne]; exact c1
      clear c0 c1 hi
      go_enter Try.func27, Try.ntmps27
      go_wp2
      go_ret
      exact ⟨rfl, Below.refl _ _⟩
    · have d2 : ((s[i].toNat : Int) != 92) = true := by rw [bt_get s i (by omega), bne_iff_ne]; exact c0
      clear c0 hi
      go_enter Try.func27, Try.ntmps27
      go_wp2
      go_ret
      exact ⟨rfl, Below.refl _ _⟩
  · have d1 : decide ((s.size : Int) - (i : Int) < 6) = true := decide_eq_true (by omega)
    clear hi
    go_enter Try.func27, Try.ntmps27
    go_wp2
    go_ret
    exact ⟨rfl, Below.refl _ _⟩

theorem c27 (s : ByteArray) (b i : Nat) (w : World) (hs : s.size ≤ 4194304) (him : i ≤ 9223372036854775807) (h0 : w.cell? ⟨b, 0, none⟩ = some (.string s)) :
    Calls Try.prog 27 #[.pointer (some ⟨b, 0, none⟩), .int .i64 (i : Int)] w fun e w' => e = .returned (.int .i32 (h4 s i)) ∧ Below w.heap.size w w' := by
  by_cases h : i + 6 ≤ s.size ∧ bt s i = 92 ∧ bt s (i + 1) = 117
  · have e : h4 s i = val (fun j => bt s (i + 2 + j)) := if_pos h
    rw [e]
    exact c27_yes s b i w hs h.1 h0 h.2.1 h.2.2
  · have e : h4 s i = -1 := if_neg h
    rw [e]
    exact c27_no s b i w hs him h h0

set_option maxRecDepth 100000 in
set_option maxHeartbeats 1000000 in
theorem c14 (s : ByteArray) (pos depth : Int) (i : Nat) (w : World) (hs : s.size ≤ 4194304) (him : i ≤ 9223372036854775807) :
    Calls Try.prog 14 #[.string s, .int .i64 pos, .int .i64 depth, .int .i64 (i : Int)] w fun e w' => e = .returned (.tuple #[.int .i32 (h4 s i), .string s, .int .i64 pos, .int .i64 depth]) ∧ Below w.heap.size w w' := by
  go_enter Try.func14, Try.ntmps14
  go_wp2_with fail
  refine (c27 s w.heap.size i _ hs him (by simp)).mono ?_
  rintro e w1 ⟨rfl, hb⟩
  have hb1 : Below w.heap.size w w1 := ((Below.refl _ _).alloc (Nat.le_refl _) _).trans (hb.mono (by simp))
  have e0 : w1.cell? ⟨w.heap.size, 0, none⟩ = some (.string s) := by rw [hb.cell (p := ⟨w.heap.size, 0, none⟩) (by simp)]; simp
  have e1 : w1.cell? ⟨w.heap.size, 1, none⟩ = some (.int .i64 pos) := by rw [hb.cell (p := ⟨w.heap.size, 1, none⟩) (by simp)]; simp
  have e2 : w1.cell? ⟨w.heap.size, 2, none⟩ = some (.int .i64 depth) := by rw [hb.cell (p := ⟨w.heap.size, 2, none⟩) (by simp)]; simp
  have HB := hide hb1
  clear hb hb1
  go_wp2
  go_quiet (fail)
  go_wp2
  exact bodyPost_ret (v := .tuple #[.int .i32 (h4 s i), .string s, .int .i64 pos, .int .i64 depth]) (by simp [results, Try.results14, go_sem]) rfl ⟨rfl, below_drewN (unhide HB) _⟩
end Go.Proofs.Qxb6601728a.hex
