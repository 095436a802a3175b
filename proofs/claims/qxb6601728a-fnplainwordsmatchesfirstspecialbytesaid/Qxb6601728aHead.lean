/- The head of the dump, read once: what 'mayEnter', 'liftsFinal' and 'make' ask of it, proved without running the kernel over the whole string. -/
import Derived.Test.Qxb6601728aRows
import Derived.JoinedOf
namespace Go.Proofs.Qxb6601728a.head

def hs : List Char := [104, 97, 114, 110, 101, 115, 115].map Char.ofNat
def sm : List Char := [51, 97, 50, 55, 51, 48, 99, 100, 57, 55, 101, 99, 101, 57, 56, 53, 100, 57, 101, 99, 54, 48, 48, 48, 48, 53, 57, 50, 51, 54, 48, 50, 49, 99, 50, 50, 99, 54, 55, 57, 49, 57, 56, 52, 57, 52, 54, 100, 98, 53, 48, 54, 54, 48, 51, 98, 98, 48, 50, 54, 54, 48, 97, 56].map Char.ofNat
def ct : List Char := [99, 117, 116].map Char.ofNat
def rs : List Char := [97, 116, 32, 101, 120, 97, 109, 112, 108, 101, 46, 99, 111, 109, 47, 97, 117, 116, 104, 110, 100, 47, 97, 117, 116, 104, 110, 100, 47, 122, 122, 108, 97, 119, 115, 95, 112, 107, 103, 95, 106, 115, 111, 110, 115, 99, 97, 110, 95, 98, 49, 46, 70, 110, 72, 101, 120, 52, 77, 97, 116, 99, 104, 101, 115, 68, 105, 103, 105, 116, 77, 111, 100, 101, 108, 32, 101, 120, 97, 109, 112, 108, 101, 46, 99, 111, 109, 47, 97, 117, 116, 104, 110, 100, 47, 97, 117, 116, 104, 110, 100, 47, 122, 122, 108, 97, 119, 115, 95, 112, 107, 103, 95, 106, 115, 111, 110, 115, 99, 97, 110, 95, 98, 49, 46, 70, 110, 72, 101, 120, 52, 82, 111, 117, 110, 100, 84, 114, 105, 112, 115, 70, 111, 117, 114, 72, 101, 120, 68, 105, 103, 105, 116, 115, 32, 101, 120, 97, 109, 112, 108, 101, 46, 99, 111, 109, 47, 97, 117, 116, 104, 110, 100, 47, 97, 117, 116, 104, 110, 100, 47, 122, 122, 108, 97, 119, 115, 95, 112, 107, 103, 95, 106, 115, 111, 110, 115, 99, 97, 110, 95, 98, 49, 46, 70, 110, 72, 101, 120, 52, 82, 101, 97, 100, 115, 79, 110, 108, 121, 73, 116, 115, 83, 105, 120, 66, 121, 116, 101, 115, 32, 101, 120, 97, 109, 112, 108, 101, 46, 99, 111, 109, 47, 97, 117, 116, 104, 110, 100, 47, 97, 117, 116, 104, 110, 100, 47, 122, 122, 108, 97, 119, 115, 95, 112, 107, 103, 95, 106, 115, 111, 110, 115, 99, 97, 110, 95, 98, 49, 46, 70, 110, 80, 108, 97, 105, 110, 87, 111, 114, 100, 115, 77, 97, 116, 99, 104, 101, 115, 70, 105, 114, 115, 116, 83, 112, 101, 99, 105, 97, 108, 66, 121, 116, 101, 32, 101, 120, 97, 109, 112, 108, 101, 46, 99, 111, 109, 47, 97, 117, 116, 104, 110, 100, 47, 97, 117, 116, 104, 110, 100, 47, 122, 122, 108, 97, 119, 115, 95, 112, 107, 103, 95, 106, 115, 111, 110, 115, 99, 97, 110, 95, 98, 49, 46, 70, 110, 80, 108, 97, 105, 110, 87, 111, 114, 100, 115, 73, 100, 101, 109, 112, 111, 116, 101, 110, 116, 32, 101, 120, 97, 109, 112, 108, 101, 46, 99, 111, 109, 47, 97, 117, 116, 104, 110, 100, 47, 97, 117, 116, 104, 110, 100, 47, 122, 122, 108, 97, 119, 115, 95, 112, 107, 103, 95, 106, 115, 111, 110, 115, 99, 97, 110, 95, 98, 49, 46, 70, 110, 80, 108, 97, 105, 110, 87, 111, 114, 100, 115, 77, 111, 110, 111, 116, 111, 110, 101, 85, 110, 100, 101, 114, 65, 112, 112, 101, 110, 100, 32, 101, 120, 97, 109, 112, 108, 101, 46, 99, 111, 109, 47, 97, 117, 116, 104, 110, 100, 47, 97, 117, 116, 104, 110, 100, 47, 122, 122, 108, 97, 119, 115, 95, 112, 107, 103, 95, 106, 115, 111, 110, 115, 99, 97, 110, 95, 98, 49, 46, 70, 110, 83, 112, 97, 99, 101, 83, 116, 111, 112, 115, 65, 116, 70, 105, 114, 115, 116, 78, 111, 110, 83, 112, 97, 99, 101, 32, 101, 120, 97, 109, 112, 108, 101, 46, 99, 111, 109, 47, 97, 117, 116, 104, 110, 100, 47, 97, 117, 116, 104, 110, 100, 47, 122, 122, 108, 97, 119, 115, 95, 112, 107, 103, 95, 106, 115, 111, 110, 115, 99, 97, 110, 95, 98, 49, 46, 70, 110, 83, 112, 97, 99, 101, 73, 100, 101, 109, 112, 111, 116, 101, 110, 116, 32, 101, 120, 97, 109, 112, 108, 101, 46, 99, 111, 109, 47, 97, 117, 116, 104, 110, 100, 47, 97, 117, 116, 104, 110, 100, 47, 122, 122, 108, 97, 119, 115, 95, 112, 107, 103, 95, 106, 115, 111, 110, 115, 99, 97, 110, 95, 98, 49, 46, 70, 110, 83, 112, 97, 99, 101, 83, 104, 105, 102, 116, 115, 87, 105, 116, 104, 80, 114, 101, 102, 105, 120].map Char.ofNat

theorem toList_of {s : String} {l : List Char} (h : s = String.ofList l) : s.toList = l := by
  subst h; exact String.toList_ofList

theorem order_eq : Try.prog.initOrder = String.ofList (hs ++ ' ' :: (sm ++ ' ' :: (ct ++ ' ' :: rs))) := by kernel_rfl

theorem words_app (a r : List Char) (h : a.all (fun c => c != ' ') = true) : wordsSigns (a ++ ' ' :: r) = a :: wordsSigns r := by
  induction a with
  | nil => simp [wordsSigns]
  | cons c a ih =>
    simp only [List.all_cons, Bool.and_eq_true] at h
    have hc : c ≠ ' ' := by simpa using h.1
    rw [List.cons_append, wordsSigns.eq_3 _ _ (by simpa using hc), ih h.2]

theorem words_eq : behindMainWord (wordsSigns Try.prog.initOrder.toList) = ct :: wordsSigns rs := by
  rw [toList_of order_eq, words_app hs _ (by decide), words_app sm _ (by decide), words_app ct _ (by decide)]
  have h1 : (hs == "harness".toList || hs == "ownmain".toList) = true := by decide
  have h2 : isSumSigns sm = true := by decide
  simp only [behindMainWord, h1, h2, Bool.and_self, if_true]

theorem strip_eq (r : List (List Char)) : stripLifts liftWords (ct :: r) = ([], ct :: r) := by
  have hne : ∀ o ∈ liftWords, (ct == o.toList) = false := by decide
  have : ∀ (l : List String), (∀ o ∈ l, (ct == o.toList) = false) → stripLifts l (ct :: r) = ([], ct :: r) := by
    intro l
    induction l with
    | nil => intro _; rfl
    | cons o os ih =>
      intro h
      rw [stripLifts, if_neg (by rw [h o (by simp)]; decide)]
      exact ih fun x hx => h x (by simp [hx])
  exact this _ hne

theorem not_gc : (ct == "gc".toList || ct == "spec".toList) = false := by decide
theorem is_cut : (ct == "cut".toList) = true := by decide
theorem not_carried : (ct == "carried".toList) = false := by decide
theorem head_cut : (some ct == some "cut".toList) = true := by decide
theorem mayEnter_of {P : Program} {r : List (List Char)} (h : behindMainWord (wordsSigns P.initOrder.toList) = ct :: r) (hl : P.laysLater = false) (hr : P.bearsReflect = false) (hd : P.doorRows = []) :
    P.mayEnter = true := by
  unfold Program.mayEnter
  rw [h]
  simp only [strip_eq, not_gc, not_carried, List.head?_cons, head_cut, hl, hr, Program.doorFits, hd]
  rfl
theorem liftsFinal_of {P : Program} {r : List (List Char)} (h : behindMainWord (wordsSigns P.initOrder.toList) = ct :: r) : P.liftsFinal = false := by
  unfold Program.liftsFinal Program.headLifts
  have h1 : (some ct == some "carried".toList) = false := by decide
  simp only [h, strip_eq, List.head?_cons, head_cut, if_true, h1]
  rfl
theorem make_of {P : Program} {r : List (List Char)} (h : behindMainWord (wordsSigns P.initOrder.toList) = ct :: r) : P.make = some .cut := by
  unfold Program.make
  rw [h]
  simp only [not_gc, is_cut, Bool.true_or, if_true, Bool.false_eq_true, if_false]

theorem lays : Try.prog.laysLater = false := by kernel_rfl
theorem refl : Try.prog.bearsReflect = false := by kernel_rfl
theorem doors : Try.prog.doorRows = [] := by kernel_rfl
theorem mayEnter : Try.prog.mayEnter = true := mayEnter_of words_eq lays refl doors
theorem liftsFinal : Try.prog.liftsFinal = false := liftsFinal_of words_eq
theorem make : Try.prog.make = some .cut := make_of words_eq
end Go.Proofs.Qxb6601728a.head
