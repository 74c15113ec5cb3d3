import Derived.Test.Qxb6600143aRound
import Derived.Test.Qxb6600143aClone
namespace Go.Proofs.Qxb6600143a.Hex
open Go.ChangeShapes Go.WideShapes Go.ChangeAt Go.RowKit
set_option linter.unusedVariables false

/-! ### The plain law -/
def isHexB (c : Int) : Bool := decide (0 ≤ hexv c)
def allB (g : Nat → Int) : Nat → Bool
  | 0 => true
  | k + 1 => allB g k && isHexB (g k)
def lower (c : Int) : Int := if 65 ≤ c ∧ c ≤ 90 then c + 32 else c

theorem allB_iff (g : Nat → Int) : ∀ k, allB g k = true ↔ AllHex g k
  | 0 => by simp [allB, AllHex]
  | k + 1 => by
    simp only [allB, Bool.and_eq_true, allB_iff g k, isHexB, decide_eq_true_eq]
    constructor
    · rintro ⟨h1, h2⟩ i hi
      by_cases e : i = k
      · rw [e]; exact h2
      · exact h1 i (by omega)
    · intro h
      exact ⟨fun i hi => h i (by omega), h k (by omega)⟩

theorem hexd_lower {c : Int} (h : 0 ≤ hexv c) : hexd (hexv c) false = lower c := by
  unfold hexv at h ⊢
  unfold hexd lower
  repeat' split at h
  all_goals (repeat' split) <;> first | omega | (simp at *; done) | (simp at *; omega)

theorem val_digit {g : Nat → Int} (h : AllHex g 4) (i : Nat) (hi : i < 4) : dg (val g 4) i = hexv (g i) := by
  have e : val g 4 = (((0 * 16 + hexv (g 0)) * 16 + hexv (g 1)) * 16 + hexv (g 2)) * 16 + hexv (g 3) := rfl
  have a0 := h 0 (by omega)
  have a1 := h 1 (by omega)
  have a2 := h 2 (by omega)
  have a3 := h 3 (by omega)
  have b0 := hexv_le (g 0)
  have b1 := hexv_le (g 1)
  have b2 := hexv_le (g 2)
  have b3 := hexv_le (g 3)
  rw [e]
  have hi4 : i = 0 ∨ i = 1 ∨ i = 2 ∨ i = 3 := by omega
  rcases hi4 with rfl | rfl | rfl | rfl
  all_goals
    simp only [dg]
    omega

theorem val_word {g : Nat → Int} (h : AllHex g 4) : 0 ≤ val g 4 ∧ val g 4 ≤ 65535 := by
  have := val_bd h
  simp at this
  omega

theorem hexB_yes {c : Int} (h : (48 ≤ c ∧ c ≤ 57) ∨ (97 ≤ c ∧ c ≤ 102) ∨ (65 ≤ c ∧ c ≤ 70)) : isHexB c = true := by
  have h' : 0 ≤ hexv c := by
    unfold hexv
    (repeat' split) <;> omega
  exact decide_eq_true h'
theorem hexB_no {c : Int} (h : ¬ ((48 ≤ c ∧ c ≤ 57) ∨ (97 ≤ c ∧ c ≤ 102) ∨ (65 ≤ c ∧ c ≤ 70))) : isHexB c = false := by
  have h' : ¬ 0 ≤ hexv c := by
    unfold hexv
    (repeat' split) <;> omega
  exact decide_eq_false h'

/-! ### The callees -/
theorem ret_bool {a b : Bool} (h : a = b) : Ending.returned (.bool a) = .returned (.bool b) := by rw [h]

set_option maxHeartbeats 400000 in
theorem isHex25 (c : Int) (w : World) : Calls Try.prog 25 #[.int .u8 c] w fun e w' => e = .returned (.bool (isHexB c)) ∧ w' = w := by
  go_enter Try.func25, Try.ntmps25
  go_wp2
  all_goals
    go_ret
    refine ⟨ret_bool ?_, rfl⟩
    go_light
    by_cases hh : (48 ≤ c ∧ c ≤ 57) ∨ (97 ≤ c ∧ c ≤ 102) ∨ (65 ≤ c ∧ c ≤ 70)
    · refine Eq.trans ?_ (hexB_yes hh).symm
      simp <;> omega
    · refine Eq.trans ?_ (hexB_no hh).symm
      simp <;> omega

set_option maxHeartbeats 400000 in
theorem lower26 (c : Int) (w : World) (h0 : 0 ≤ c) (h1 : c ≤ 255) : Calls Try.prog 26 #[.int .u8 c] w fun e w' => e = .returned (.int .u8 (lower c)) ∧ w' = w := by
  by_cases h : 65 ≤ c ∧ c ≤ 90
  · have HX : Hid (lower c = c + 32) := show lower c = c + 32 by simp [lower, h]
    obtain ⟨ha, hb⟩ := h
    go_enter Try.func26, Try.ntmps26
    go_wp2
    go_ret
    exact ⟨by rw [HX.out]; rfl, rfl⟩
  · have HX : Hid (lower c = c) := show lower c = c by unfold lower; rw [if_neg h]
    have h' : c < 65 ∨ 90 < c := by omega
    clear h
    rcases h' with h | h
    all_goals
      go_enter Try.func26, Try.ntmps26
      go_wp2
      go_ret
      exact ⟨by rw [HX.out]; rfl, rfl⟩

end Go.Proofs.Qxb6600143a.Hex
