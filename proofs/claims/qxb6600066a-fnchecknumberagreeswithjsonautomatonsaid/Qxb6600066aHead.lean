/- The head of the dump, read once: what 'mayEnter', 'liftsFinal' and 'make' ask of it, proved without running the kernel over the whole string. -/
import Derived.Test.Qxb6600066aRows
import Derived.JoinedOf
namespace Go.Proofs.Qxb6600066a.head

def hs : List Char := [104, 97, 114, 110, 101, 115, 115].map Char.ofNat
def sm : List Char := [53, 101, 50, 56, 49, 98, 53, 52, 51, 50, 54, 53, 57, 54, 55, 53, 51, 99, 56, 54, 48, 100, 49, 53, 49, 55, 55, 97, 53, 99, 54, 52, 99, 48, 101, 54, 49, 57, 49, 51, 53, 51, 57, 51, 53, 98, 54, 101, 101, 49, 48, 55, 57, 97, 50, 97, 101, 100, 56, 51, 49, 101, 53, 102].map Char.ofNat
def ct : List Char := [99, 117, 116].map Char.ofNat
def rs : List Char := [97, 116, 32, 101, 120, 97, 109, 112, 108, 101, 46, 99, 111, 109, 47, 116, 105, 100, 101, 119, 97, 116, 99, 104, 47, 116, 105, 100, 101, 119, 97, 116, 99, 104, 47, 122, 122, 108, 97, 119, 115, 95, 105, 110, 116, 101, 114, 110, 97, 108, 95, 107, 117, 98, 101, 112, 114, 111, 116, 111, 95, 98, 49, 46, 70, 110, 67, 104, 101, 99, 107, 78, 117, 109, 98, 101, 114, 65, 103, 114, 101, 101, 115, 87, 105, 116, 104, 74, 83, 79, 78, 65, 117, 116, 111, 109, 97, 116, 111, 110, 32, 101, 120, 97, 109, 112, 108, 101, 46, 99, 111, 109, 47, 116, 105, 100, 101, 119, 97, 116, 99, 104, 47, 116, 105, 100, 101, 119, 97, 116, 99, 104, 47, 122, 122, 108, 97, 119, 115, 95, 105, 110, 116, 101, 114, 110, 97, 108, 95, 107, 117, 98, 101, 112, 114, 111, 116, 111, 95, 98, 49, 46, 70, 110, 67, 104, 101, 99, 107, 78, 117, 109, 98, 101, 114, 73, 103, 110, 111, 114, 101, 115, 87, 104, 97, 116, 80, 114, 101, 99, 101, 100, 101, 115, 73, 116, 32, 101, 120, 97, 109, 112, 108, 101, 46, 99, 111, 109, 47, 116, 105, 100, 101, 119, 97, 116, 99, 104, 47, 116, 105, 100, 101, 119, 97, 116, 99, 104, 47, 122, 122, 108, 97, 119, 115, 95, 105, 110, 116, 101, 114, 110, 97, 108, 95, 107, 117, 98, 101, 112, 114, 111, 116, 111, 95, 98, 49, 46, 70, 110, 67, 104, 101, 99, 107, 78, 117, 109, 98, 101, 114, 83, 112, 97, 110, 83, 116, 97, 110, 100, 115, 65, 108, 111, 110, 101, 32, 101, 120, 97, 109, 112, 108, 101, 46, 99, 111, 109, 47, 116, 105, 100, 101, 119, 97, 116, 99, 104, 47, 116, 105, 100, 101, 119, 97, 116, 99, 104, 47, 122, 122, 108, 97, 119, 115, 95, 105, 110, 116, 101, 114, 110, 97, 108, 95, 107, 117, 98, 101, 112, 114, 111, 116, 111, 95, 98, 49, 46, 70, 110, 83, 111, 114, 116, 66, 121, 73, 110, 100, 101, 120, 80, 108, 97, 99, 101, 115, 69, 97, 99, 104, 70, 105, 101, 108, 100, 65, 116, 73, 116, 115, 83, 116, 97, 98, 108, 101, 82, 97, 110, 107, 32, 101, 120, 97, 109, 112, 108, 101, 46, 99, 111, 109, 47, 116, 105, 100, 101, 119, 97, 116, 99, 104, 47, 116, 105, 100, 101, 119, 97, 116, 99, 104, 47, 122, 122, 108, 97, 119, 115, 95, 105, 110, 116, 101, 114, 110, 97, 108, 95, 107, 117, 98, 101, 112, 114, 111, 116, 111, 95, 98, 49, 46, 70, 110, 83, 111, 114, 116, 66, 121, 73, 110, 100, 101, 120, 73, 115, 73, 100, 101, 109, 112, 111, 116, 101, 110, 116, 32, 101, 120, 97, 109, 112, 108, 101, 46, 99, 111, 109, 47, 116, 105, 100, 101, 119, 97, 116, 99, 104, 47, 116, 105, 100, 101, 119, 97, 116, 99, 104, 47, 122, 122, 108, 97, 119, 115, 95, 105, 110, 116, 101, 114, 110, 97, 108, 95, 107, 117, 98, 101, 112, 114, 111, 116, 111, 95, 98, 49, 46, 70, 110, 87, 105, 114, 101, 84, 121, 112, 101, 115, 72, 97, 110, 103, 79, 110, 84, 121, 112, 101, 82, 101, 112, 101, 97, 116, 101, 100, 65, 110, 100, 77, 97, 112, 65, 108, 111, 110, 101, 32, 101, 120, 97, 109, 112, 108, 101, 46, 99, 111, 109, 47, 116, 105, 100, 101, 119, 97, 116, 99, 104, 47, 116, 105, 100, 101, 119, 97, 116, 99, 104, 47, 122, 122, 108, 97, 119, 115, 95, 105, 110, 116, 101, 114, 110, 97, 108, 95, 107, 117, 98, 101, 112, 114, 111, 116, 111, 95, 98, 49, 46, 70, 110, 87, 105, 114, 101, 84, 121, 112, 101, 115, 82, 101, 112, 101, 97, 116, 105, 110, 103, 79, 110, 108, 121, 65, 100, 100, 115, 66, 121, 116, 101, 115, 32, 101, 120, 97, 109, 112, 108, 101, 46, 99, 111, 109, 47, 116, 105, 100, 101, 119, 97, 116, 99, 104, 47, 116, 105, 100, 101, 119, 97, 116, 99, 104, 47, 122, 122, 108, 97, 119, 115, 95, 105, 110, 116, 101, 114, 110, 97, 108, 95, 107, 117, 98, 101, 112, 114, 111, 116, 111, 95, 98, 49, 46, 70, 110, 87, 105, 114, 101, 84, 121, 112, 101, 115, 73, 115, 65, 83, 109, 97, 108, 108, 78, 111, 110, 69, 109, 112, 116, 121, 83, 101, 116].map Char.ofNat

theorem toList_of {s : String} {l : List Char} (h : s = String.ofList l) : s.toList = l := by
  subst h; exact String.toList_ofList

theorem order_eq : Try.prog.initOrder = String.ofList (hs ++ ' ' :: (sm ++ ' ' :: (ct ++ ' ' :: rs))) := by kernel_rfl

theorem words_app (a r : List Char) (h : a.all (fun c => c != ' ') = true) : wordsSigns (a ++ ' ' :: r) = a :: wordsSigns r := by
  induction a with
  | nil => simp [wordsSigns]
  | cons c a ih =>
    simp only [List.all_cons, Bool.and_eq_true] at h
    have hc : c ≠ ' ' := by simpa using h.1
    rw [List.cons_append, wordsSigns.eq_3 _ _ (by simpa using hc), ih h.2]

theorem words_eq : behindMainWord (wordsSigns Try.prog.initOrder.toList) = ct :: wordsSigns rs := by
  rw [toList_of order_eq, words_app hs _ (by decide), words_app sm _ (by decide), words_app ct _ (by decide)]
  have h1 : (hs == "harness".toList || hs == "ownmain".toList) = true := by decide
  have h2 : isSumSigns sm = true := by decide
  simp only [behindMainWord, h1, h2, Bool.and_self, if_true]

theorem strip_eq (r : List (List Char)) : stripLifts liftWords (ct :: r) = ([], ct :: r) := by
  have hne : ∀ o ∈ liftWords, (ct == o.toList) = false := by decide
  have : ∀ (l : List String), (∀ o ∈ l, (ct == o.toList) = false) → stripLifts l (ct :: r) = ([], ct :: r) := by
    intro l
    induction l with
    | nil => intro _; rfl
    | cons o os ih =>
      intro h
      rw [stripLifts, if_neg (by rw [h o (by simp)]; decide)]
      exact ih fun x hx => h x (by simp [hx])
  exact this _ hne

theorem not_gc : (ct == "gc".toList || ct == "spec".toList) = false := by decide
theorem is_cut : (ct == "cut".toList) = true := by decide
theorem not_carried : (ct == "carried".toList) = false := by decide
theorem head_cut : (some ct == some "cut".toList) = true := by decide
theorem mayEnter_of {P : Program} {r : List (List Char)} (h : behindMainWord (wordsSigns P.initOrder.toList) = ct :: r) (hl : P.laysLater = false) (hr : P.bearsReflect = false) (hd : P.doorRows = []) :
    P.mayEnter = true := by
  unfold Program.mayEnter
  rw [h]
  simp only [strip_eq, not_gc, not_carried, List.head?_cons, head_cut, hl, hr, Program.doorFits, hd]
  rfl
theorem liftsFinal_of {P : Program} {r : List (List Char)} (h : behindMainWord (wordsSigns P.initOrder.toList) = ct :: r) : P.liftsFinal = false := by
  unfold Program.liftsFinal Program.headLifts
  have h1 : (some ct == some "carried".toList) = false := by decide
  simp only [h, strip_eq, List.head?_cons, head_cut, if_true, h1]
  rfl
theorem make_of {P : Program} {r : List (List Char)} (h : behindMainWord (wordsSigns P.initOrder.toList) = ct :: r) : P.make = some .cut := by
  unfold Program.make
  rw [h]
  simp only [not_gc, is_cut, Bool.true_or, if_true, Bool.false_eq_true, if_false]

theorem lays : Try.prog.laysLater = false := by kernel_rfl
theorem refl : Try.prog.bearsReflect = false := by kernel_rfl
theorem doors : Try.prog.doorRows = [] := by kernel_rfl
theorem mayEnter : Try.prog.mayEnter = true := mayEnter_of words_eq lays refl doors
theorem liftsFinal : Try.prog.liftsFinal = false := liftsFinal_of words_eq
theorem make : Try.prog.make = some .cut := make_of words_eq
end Go.Proofs.Qxb6600066a.head
