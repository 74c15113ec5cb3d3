import Derived.Test.Qxb6000480aRows
import Derived.WalkKit
import Derived.WalkSpells
import Derived.WalkLawsBesides
import Derived.ProofKit
import Derived.OpenShut
import Derived.ShutString
namespace Go.Proofs.Qxb6000480a.Kind
open Go.ChangeShapes Go.WideShapes Go.ChangeAt Go.RowKit
set_option linter.unusedVariables false

/-- kindOf's answer, off the first byte. -/
def kindB (c : UInt8) : ByteArray :=
  if ((c.toNat : Int) == 34) = true then ⟨#[97, 32, 115, 116, 114, 105, 110, 103]⟩
  else if ((c.toNat : Int) == 123) = true then ⟨#[97, 110, 32, 111, 98, 106, 101, 99, 116]⟩
  else if ((c.toNat : Int) == 91) = true then ⟨#[97, 110, 32, 97, 114, 114, 97, 121]⟩
  else if ((c.toNat : Int) == 116) = true then ⟨#[97, 32, 98, 111, 111, 108, 101, 97, 110]⟩
  else if ((c.toNat : Int) == 102) = true then ⟨#[97, 32, 98, 111, 111, 108, 101, 97, 110]⟩
  else if ((c.toNat : Int) == 110) = true then ⟨#[110, 117, 108, 108]⟩
  else ⟨#[97, 32, 110, 117, 109, 98, 101, 114]⟩

theorem ret_string {a b : ByteArray} (h : a = b) : Ending.returned (.string a) = .returned (.string b) := by rw [h]

set_option maxHeartbeats 400000 in
theorem kindOf27 (s : ByteArray) (h : 0 < s.size) (hs : s.size ≤ maxLen) (w : World) :
    Calls Try.prog 27 #[.string s] w fun e w' => e = .returned (.string (kindB s[0])) ∧ w' = w := by
  unfold maxLen at hs
  go_enter Try.func27, Try.ntmps27
  go_wp2
  all_goals
    go_ret
    exact ⟨ret_string (by simp [kindB, *]), rfl⟩

set_option maxHeartbeats 400000 in
theorem kind21 (s : ByteArray) (h : 0 < s.size) (hs : s.size ≤ maxLen) (w : World) :
    Calls Try.prog 21 #[.string s] w fun e w' => e = .returned (.string (kindB s[0])) ∧ w' = w := by
  go_enter Try.func21, Try.ntmps21
  go_wp2_with (go_at_call 27; refine (kindOf27 s h hs _).mono ?_; rintro e w' ⟨rfl, rfl⟩)
  go_ret
  exact ⟨rfl, rfl⟩

theorem kind21_tail (s t : ByteArray) (h : 0 < s.size) (hs : s.size + t.size ≤ 1048576) (w : World) :
    Calls Try.prog 21 #[.string (s ++ t)] w fun e w' => e = .returned (.string (kindB s[0])) ∧ w' = w := by
  have hz : (s ++ t).size = s.size + t.size := ByteArray.size_append
  have hc : (s ++ t)[0]'(by omega) = s[0] := ByteArray.getElem_append_left h
  rw [← hc]
  exact kind21 (s ++ t) (by omega) (by unfold maxLen; omega) w

theorem kindB_one (c : UInt8) : kindB c = ⟨#[97, 32, 115, 116, 114, 105, 110, 103]⟩ ∨ kindB c = ⟨#[97, 110, 32, 111, 98, 106, 101, 99, 116]⟩
    ∨ kindB c = ⟨#[97, 110, 32, 97, 114, 114, 97, 121]⟩ ∨ kindB c = ⟨#[97, 32, 98, 111, 111, 108, 101, 97, 110]⟩
    ∨ kindB c = ⟨#[110, 117, 108, 108]⟩ ∨ kindB c = ⟨#[97, 32, 110, 117, 109, 98, 101, 114]⟩ := by
  unfold kindB
  repeat' split
  all_goals simp

set_option maxHeartbeats 400000 in
theorem known23 (c : UInt8) (w : World) :
    Calls Try.prog 23 #[.string (kindB c)] w fun e w' => e = .returned (.bool true) ∧ w' = w := by
  rcases kindB_one c with h | h | h | h | h | h
  all_goals
    rw [h]
    clear h
    go_enter Try.func23, Try.ntmps23
    go_wp2
    go_ret
    exact ⟨rfl, rfl⟩

set_option maxHeartbeats 400000 in
theorem bytes22_yes (a b : ByteArray) (ha : a.size ≤ maxLen) (hb : b.size ≤ maxLen) (h : a.size + b.size ≤ 1048576) (w : World) :
    Calls Try.prog 22 #[.string a, .string b] w fun e w' => e = .returned (.bool true) ∧ w' = w := by
  unfold maxLen at ha hb
  have h1 : ¬ (1048576 : Int) < (a.size : Int) := by omega
  have h2 : ¬ (1048576 : Int) < (b.size : Int) := by omega
  have h3 : ¬ (1048576 : Int) < (a.size : Int) + b.size := by omega
  go_enter Try.func22, Try.ntmps22
  go_wp2
  go_ret
  exact ⟨rfl, rfl⟩

set_option maxHeartbeats 400000 in
theorem bytes22_no (a b : ByteArray) (ha : a.size ≤ maxLen) (hb : b.size ≤ maxLen) (h : ¬ a.size + b.size ≤ 1048576) (w : World) :
    Calls Try.prog 22 #[.string a, .string b] w fun e w' => e = .returned (.bool false) ∧ w' = w := by
  unfold maxLen at ha hb
  by_cases h1 : (1048576 : Int) < (a.size : Int)
  · go_enter Try.func22, Try.ntmps22
    go_wp2
    go_ret
    exact ⟨rfl, rfl⟩
  · by_cases h2 : (1048576 : Int) < (b.size : Int)
    · go_enter Try.func22, Try.ntmps22
      go_wp2
      go_ret
      exact ⟨rfl, rfl⟩
    · have h3 : (1048576 : Int) < (a.size : Int) + b.size := by omega
      go_enter Try.func22, Try.ntmps22
      go_wp2
      go_ret
      exact ⟨rfl, rfl⟩

end Go.Proofs.Qxb6000480a.Kind
