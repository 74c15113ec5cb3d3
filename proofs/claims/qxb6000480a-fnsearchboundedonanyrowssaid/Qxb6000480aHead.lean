/-
  THE PROGRAM's HEAD, ONCE FOR ALL FOUR ROWS: its 'initOrder' (538 signs) taken apart word by word, so that the kernel need not hold the whole of it while it reckons 'mayEnter', 'liftsFinal' and 'make' (each by itself takes some 6 GB otherwise).
-/
import Derived.Test.Qxb6000480aRows
import Derived.ProofKit
namespace Go.Proofs.Qxb6000480a.Head

def signsOf (l : List Nat) : List Char := l.map Char.ofNat
def word0 : List Char := signsOf [104, 97, 114, 110, 101, 115, 115]
def word1 : List Char := signsOf [55, 102, 49, 54, 55, 54, 102, 49, 53, 51, 52, 99, 54, 56, 100, 54, 99, 50, 50, 51, 97, 57, 101, 102, 102, 53, 100, 100, 100, 102, 49, 56, 101, 97, 49, 57, 102, 56, 102, 50, 48, 48, 57, 97, 50, 51, 102, 51, 57, 56, 55, 49, 101, 99, 98, 98, 97, 48, 48, 98, 100, 49, 97, 97]
def word2 : List Char := signsOf [99, 117, 116]
def others : List Char := signsOf [97, 116, 32, 101, 120, 97, 109, 112, 108, 101, 46, 99, 111, 109, 47, 115, 116, 114, 105, 115, 107, 47, 115, 116, 114, 105, 115, 107, 47, 122, 122, 108, 97, 119, 115, 95, 101, 110, 103, 105, 110, 101, 95, 98, 49, 46, 70, 110, 83, 101, 97, 114, 99, 104, 77, 97, 116, 99, 104, 101, 115, 76, 105, 110, 101, 97, 114, 67, 111, 117, 110, 116, 32, 101, 120, 97, 109, 112, 108, 101, 46, 99, 111, 109, 47, 115, 116, 114, 105, 115, 107, 47, 115, 116, 114, 105, 115, 107, 47, 122, 122, 108, 97, 119, 115, 95, 101, 110, 103, 105, 110, 101, 95, 98, 49, 46, 70, 110, 83, 101, 97, 114, 99, 104, 77, 111, 110, 111, 116, 111, 110, 101, 32, 101, 120, 97, 109, 112, 108, 101, 46, 99, 111, 109, 47, 115, 116, 114, 105, 115, 107, 47, 115, 116, 114, 105, 115, 107, 47, 122, 122, 108, 97, 119, 115, 95, 101, 110, 103, 105, 110, 101, 95, 98, 49, 46, 70, 110, 83, 101, 97, 114, 99, 104, 66, 111, 117, 110, 100, 101, 100, 79, 110, 65, 110, 121, 82, 111, 119, 115, 32, 101, 120, 97, 109, 112, 108, 101, 46, 99, 111, 109, 47, 115, 116, 114, 105, 115, 107, 47, 115, 116, 114, 105, 115, 107, 47, 122, 122, 108, 97, 119, 115, 95, 101, 110, 103, 105, 110, 101, 95, 98, 49, 46, 70, 110, 78, 117, 109, 98, 101, 114, 77, 97, 116, 99, 104, 101, 115, 68, 70, 65, 32, 101, 120, 97, 109, 112, 108, 101, 46, 99, 111, 109, 47, 115, 116, 114, 105, 115, 107, 47, 115, 116, 114, 105, 115, 107, 47, 122, 122, 108, 97, 119, 115, 95, 101, 110, 103, 105, 110, 101, 95, 98, 49, 46, 70, 110, 78, 117, 109, 98, 101, 114, 84, 111, 107, 101, 110, 83, 116, 97, 110, 100, 115, 65, 108, 111, 110, 101, 32, 101, 120, 97, 109, 112, 108, 101, 46, 99, 111, 109, 47, 115, 116, 114, 105, 115, 107, 47, 115, 116, 114, 105, 115, 107, 47, 122, 122, 108, 97, 119, 115, 95, 101, 110, 103, 105, 110, 101, 95, 98, 49, 46, 70, 110, 75, 105, 110, 100, 79, 102, 65, 103, 114, 101, 101, 115, 87, 105, 116, 104, 78, 117, 109, 98, 101, 114, 32, 101, 120, 97, 109, 112, 108, 101, 46, 99, 111, 109, 47, 115, 116, 114, 105, 115, 107, 47, 115, 116, 114, 105, 115, 107, 47, 122, 122, 108, 97, 119, 115, 95, 101, 110, 103, 105, 110, 101, 95, 98, 49, 46, 70, 110, 75, 105, 110, 100, 79, 102, 73, 103, 110, 111, 114, 101, 115, 84, 97, 105, 108]

theorem order_is : Try.prog.initOrder = String.ofList (word0 ++ (' ' :: (word1 ++ (' ' :: (word2 ++ (' ' :: others)))))) := by kernel_rfl
theorem order_signs : Try.prog.initOrder.toList = word0 ++ (' ' :: (word1 ++ (' ' :: (word2 ++ (' ' :: others))))) := by rw [order_is]; exact String.toList_ofList

theorem words_one : ∀ (w r : List Char), (∀ c ∈ w, ¬ c = ' ') → wordsSigns (w ++ (' ' :: r)) = w :: wordsSigns r
  | [], r, _ => by simp [wordsSigns]
  | c :: w, r, h => by
    have ih := words_one w r (fun c hc => h c (List.mem_cons_of_mem _ hc))
    have hc : ¬ c = ' ' := h c List.mem_cons_self
    simp only [List.cons_append]
    rw [wordsSigns]
    · rw [ih]
    · exact hc

theorem bare_of {w : List Char} (h : w.all (fun c => !(c == ' ')) = true) : ∀ c ∈ w, ¬ c = ' ' := by
  intro c hc e
  have := List.all_eq_true.1 h c hc
  rw [e] at this
  simp at this

theorem words_are : wordsSigns Try.prog.initOrder.toList = word0 :: word1 :: word2 :: wordsSigns others := by
  rw [order_signs, words_one _ _ (bare_of (by kernel_rfl)), words_one _ _ (bare_of (by kernel_rfl)), words_one _ _ (bare_of (by kernel_rfl))]

theorem behind_any (r : List (List Char)) : behindMainWord (word0 :: word1 :: word2 :: r) = word2 :: r := by kernel_rfl

theorem behind_are : behindMainWord (wordsSigns Try.prog.initOrder.toList) = word2 :: wordsSigns others := by
  rw [words_are, behind_any]

/-! ### Of whatever program whose head reads so -/
theorem made_of {P : Program} {r : List (List Char)} (h : behindMainWord (wordsSigns P.initOrder.toList) = word2 :: r) : P.make = some .cut := by
  unfold Program.make
  rw [h]
  kernel_rfl

theorem lifts_of {P : Program} {r : List (List Char)} (h : behindMainWord (wordsSigns P.initOrder.toList) = word2 :: r) : P.liftsFinal = false := by
  unfold Program.liftsFinal Program.headLifts
  rw [h]
  kernel_rfl

theorem strip_any (r : List (List Char)) : stripLifts liftWords (word2 :: r) = ([], word2 :: r) := by kernel_rfl

theorem enter_of {P : Program} {r : List (List Char)} (h : behindMainWord (wordsSigns P.initOrder.toList) = word2 :: r) (h1 : P.laysLater = false) (h2 : P.bearsReflect = false) (h3 : P.doorFits [] = true) : P.mayEnter = true := by
  unfold Program.mayEnter
  rw [h]
  simp only [strip_any, h1, h2, h3]
  kernel_rfl

theorem may_enter : Try.prog.mayEnter = true := enter_of behind_are (by kernel_rfl) (by kernel_rfl) (by kernel_rfl)
theorem made : Try.prog.make = some .cut := made_of behind_are
theorem lifts_final : Try.prog.liftsFinal = false := lifts_of behind_are

theorem and_mk {a b : Bool} (ha : a = true) (hb : b = true) : (a && b) = true := by rw [ha, hb]; rfl

end Go.Proofs.Qxb6000480a.Head
