/-
  THE PROGRAM's HEAD, ONCE FOR ALL FOUR ROWS: its 'initOrder' (819 signs) taken apart word by word, so that the kernel need not hold the whole of it while it reckons 'mayEnter', 'liftsFinal' and 'make' (each by itself outgrows the lid of 10,240 MB).
-/
import Derived.Test.Qxb6600143aRows
import Derived.ProofKit
namespace Go.Proofs.Qxb6600143a.Head

def signsOf (l : List Nat) : List Char := l.map Char.ofNat
def word0 : List Char := signsOf [104, 97, 114, 110, 101, 115, 115]
def word1 : List Char := signsOf [102, 56, 100, 102, 97, 52, 57, 52, 56, 51, 51, 50, 56, 55, 53, 48, 97, 50, 52, 98, 102, 52, 52, 57, 49, 54, 48, 97, 53, 56, 55, 57, 56, 98, 52, 54, 48, 100, 98, 54, 100, 53, 101, 56, 97, 49, 100, 101, 98, 100, 52, 52, 102, 53, 99, 57, 97, 51, 57, 55, 54, 48, 48, 51]
def word2 : List Char := signsOf [99, 117, 116]
def others : List Char := signsOf [97, 116, 32, 101, 120, 97, 109, 112, 108, 101, 46, 99, 111, 109, 47, 116, 101, 110, 111, 114, 98, 111, 111, 107, 47, 116, 101, 110, 111, 114, 98, 111, 111, 107, 47, 122, 122, 108, 97, 119, 115, 95, 105, 110, 116, 101, 114, 110, 97, 108, 95, 108, 101, 100, 103, 101, 114, 95, 98, 49, 46, 70, 110, 73, 115, 68, 105, 103, 105, 116, 115, 67, 111, 110, 99, 97, 116, 32, 101, 120, 97, 109, 112, 108, 101, 46, 99, 111, 109, 47, 116, 101, 110, 111, 114, 98, 111, 111, 107, 47, 116, 101, 110, 111, 114, 98, 111, 111, 107, 47, 122, 122, 108, 97, 119, 115, 95, 105, 110, 116, 101, 114, 110, 97, 108, 95, 108, 101, 100, 103, 101, 114, 95, 98, 49, 46, 70, 110, 73, 115, 68, 105, 103, 105, 116, 115, 82, 101, 102, 117, 115, 101, 115, 65, 110, 121, 78, 111, 110, 68, 105, 103, 105, 116, 32, 101, 120, 97, 109, 112, 108, 101, 46, 99, 111, 109, 47, 116, 101, 110, 111, 114, 98, 111, 111, 107, 47, 116, 101, 110, 111, 114, 98, 111, 111, 107, 47, 122, 122, 108, 97, 119, 115, 95, 105, 110, 116, 101, 114, 110, 97, 108, 95, 108, 101, 100, 103, 101, 114, 95, 98, 49, 46, 70, 110, 73, 115, 68, 105, 103, 105, 116, 115, 65, 99, 99, 101, 112, 116, 115, 69, 118, 101, 114, 121, 68, 101, 99, 105, 109, 97, 108, 32, 101, 120, 97, 109, 112, 108, 101, 46, 99, 111, 109, 47, 116, 101, 110, 111, 114, 98, 111, 111, 107, 47, 116, 101, 110, 111, 114, 98, 111, 111, 107, 47, 122, 122, 108, 97, 119, 115, 95, 105, 110, 116, 101, 114, 110, 97, 108, 95, 108, 101, 100, 103, 101, 114, 95, 98, 49, 46, 70, 110, 83, 107, 105, 112, 83, 112, 97, 99, 101, 83, 116, 111, 112, 115, 65, 116, 70, 105, 114, 115, 116, 78, 111, 110, 83, 112, 97, 99, 101, 32, 101, 120, 97, 109, 112, 108, 101, 46, 99, 111, 109, 47, 116, 101, 110, 111, 114, 98, 111, 111, 107, 47, 116, 101, 110, 111, 114, 98, 111, 111, 107, 47, 122, 122, 108, 97, 119, 115, 95, 105, 110, 116, 101, 114, 110, 97, 108, 95, 108, 101, 100, 103, 101, 114, 95, 98, 49, 46, 70, 110, 83, 107, 105, 112, 83, 112, 97, 99, 101, 73, 100, 101, 109, 112, 111, 116, 101, 110, 116, 32, 101, 120, 97, 109, 112, 108, 101, 46, 99, 111, 109, 47, 116, 101, 110, 111, 114, 98, 111, 111, 107, 47, 116, 101, 110, 111, 114, 98, 111, 111, 107, 47, 122, 122, 108, 97, 119, 115, 95, 105, 110, 116, 101, 114, 110, 97, 108, 95, 108, 101, 100, 103, 101, 114, 95, 98, 49, 46, 70, 110, 83, 107, 105, 112, 83, 112, 97, 99, 101, 77, 111, 110, 111, 116, 111, 110, 101, 32, 101, 120, 97, 109, 112, 108, 101, 46, 99, 111, 109, 47, 116, 101, 110, 111, 114, 98, 111, 111, 107, 47, 116, 101, 110, 111, 114, 98, 111, 111, 107, 47, 122, 122, 108, 97, 119, 115, 95, 105, 110, 116, 101, 114, 110, 97, 108, 95, 108, 101, 100, 103, 101, 114, 95, 98, 49, 46, 70, 110, 72, 101, 120, 52, 82, 111, 117, 110, 100, 84, 114, 105, 112, 32, 101, 120, 97, 109, 112, 108, 101, 46, 99, 111, 109, 47, 116, 101, 110, 111, 114, 98, 111, 111, 107, 47, 116, 101, 110, 111, 114, 98, 111, 111, 107, 47, 122, 122, 108, 97, 119, 115, 95, 105, 110, 116, 101, 114, 110, 97, 108, 95, 108, 101, 100, 103, 101, 114, 95, 98, 49, 46, 70, 110, 72, 101, 120, 52, 65, 99, 99, 101, 112, 116, 115, 69, 120, 97, 99, 116, 108, 121, 70, 111, 117, 114, 72, 101, 120, 68, 105, 103, 105, 116, 115, 32, 101, 120, 97, 109, 112, 108, 101, 46, 99, 111, 109, 47, 116, 101, 110, 111, 114, 98, 111, 111, 107, 47, 116, 101, 110, 111, 114, 98, 111, 111, 107, 47, 122, 122, 108, 97, 119, 115, 95, 105, 110, 116, 101, 114, 110, 97, 108, 95, 108, 101, 100, 103, 101, 114, 95, 98, 49, 46, 70, 110, 72, 101, 120, 52, 73, 103, 110, 111, 114, 101, 115, 67, 97, 115, 101]

theorem order_is : Try.prog.initOrder = String.ofList (word0 ++ (' ' :: (word1 ++ (' ' :: (word2 ++ (' ' :: others)))))) := by kernel_rfl
theorem order_signs : Try.prog.initOrder.toList = word0 ++ (' ' :: (word1 ++ (' ' :: (word2 ++ (' ' :: others))))) := by rw [order_is]; exact String.toList_ofList

theorem words_one : ∀ (w r : List Char), (∀ c ∈ w, ¬ c = ' ') → wordsSigns (w ++ (' ' :: r)) = w :: wordsSigns r
  | [], r, _ => by simp [wordsSigns]
  | c :: w, r, h => by
    have ih := words_one w r (fun c hc => h c (List.mem_cons_of_mem _ hc))
    have hc : ¬ c = ' ' := h c List.mem_cons_self
    simp only [List.cons_append]
    rw [wordsSigns]
    · rw [ih]
    · exact hc

theorem bare_of {w : List Char} (h : w.all (fun c => !(c == ' ')) = true) : ∀ c ∈ w, ¬ c = ' ' := by
  intro c hc e
  have := List.all_eq_true.1 h c hc
  rw [e] at this
  simp at this

theorem words_are : wordsSigns Try.prog.initOrder.toList = word0 :: word1 :: word2 :: wordsSigns others := by
  rw [order_signs, words_one _ _ (bare_of (by kernel_rfl)), words_one _ _ (bare_of (by kernel_rfl)), words_one _ _ (bare_of (by kernel_rfl))]

theorem behind_any (r : List (List Char)) : behindMainWord (word0 :: word1 :: word2 :: r) = word2 :: r := by kernel_rfl

theorem behind_are : behindMainWord (wordsSigns Try.prog.initOrder.toList) = word2 :: wordsSigns others := by
  rw [words_are, behind_any]

/-! ### Of whatever program whose head reads so -/
theorem made_of {P : Program} {r : List (List Char)} (h : behindMainWord (wordsSigns P.initOrder.toList) = word2 :: r) : P.make = some .cut := by
  unfold Program.make
  rw [h]
  kernel_rfl

theorem lifts_of {P : Program} {r : List (List Char)} (h : behindMainWord (wordsSigns P.initOrder.toList) = word2 :: r) : P.liftsFinal = false := by
  unfold Program.liftsFinal Program.headLifts
  rw [h]
  kernel_rfl

theorem strip_any (r : List (List Char)) : stripLifts liftWords (word2 :: r) = ([], word2 :: r) := by kernel_rfl

theorem enter_of {P : Program} {r : List (List Char)} (h : behindMainWord (wordsSigns P.initOrder.toList) = word2 :: r) (h1 : P.laysLater = false) (h2 : P.bearsReflect = false) (h3 : P.doorFits [] = true) : P.mayEnter = true := by
  unfold Program.mayEnter
  rw [h]
  simp only [strip_any, h1, h2, h3]
  kernel_rfl

theorem may_enter : Try.prog.mayEnter = true := enter_of behind_are (by kernel_rfl) (by kernel_rfl) (by kernel_rfl)
theorem made : Try.prog.make = some .cut := made_of behind_are
theorem lifts_final : Try.prog.liftsFinal = false := lifts_of behind_are

theorem and_mk {a b : Bool} (ha : a = true) (hb : b = true) : (a && b) = true := by rw [ha, hb]; rfl

end Go.Proofs.Qxb6600143a.Head
