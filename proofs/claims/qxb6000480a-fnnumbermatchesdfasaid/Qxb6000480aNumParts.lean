import Derived.Test.Qxb6000480aRows
import Derived.Test.Qxb6000480aDfa
import Derived.WalkKit
import Derived.WalkSpells
import Derived.WalkLawsBesides
import Derived.ProofKit
import Derived.OpenShut
import Derived.ShutString
import Derived.Deep.QuietTactic
import Derived.BigQuiet
namespace Go.Proofs.Qxb6000480a.Num
open Go.ChangeShapes Go.WideShapes Go.ChangeAt Go.RowKit
open Dfa
set_option linter.unusedVariables false

theorem ret_int {k : IntKind} {a b : Int} (h : a = b) : Ending.returned (.int k a) = .returned (.int k b) := by rw [h]
theorem ret_bool {a b : Bool} (h : a = b) : Ending.returned (.bool a) = .returned (.bool b) := by rw [h]

set_option maxHeartbeats 400000 in
theorem bytes16 (a : ByteArray) (s : Int) (w : World) (hl : a.size ≤ 1048576) :
    Calls Try.prog 16 #[.string a, .int .i64 s] w fun e w' => e = .returned (.bool true) ∧ w' = w := by
  have h1 : ¬ (1048576 : Int) < (a.size : Int) := by omega
  go_enter Try.func16, Try.ntmps16
  go_wp2
  go_ret
  exact ⟨rfl, rfl⟩

set_option maxHeartbeats 400000 in
theorem bytes16_no (a : ByteArray) (s : Int) (w : World) (hm : a.size ≤ maxLen) (hl : ¬ a.size ≤ 1048576) :
    Calls Try.prog 16 #[.string a, .int .i64 s] w fun e w' => e = .returned (.bool false) ∧ w' = w := by
  unfold maxLen at hm
  have h1 : (1048576 : Int) < (a.size : Int) := by omega
  go_enter Try.func16, Try.ntmps16
  go_wp2
  go_ret
  exact ⟨rfl, rfl⟩

set_option maxHeartbeats 400000 in
theorem isDigit30 (c : Int) (w : World) :
    Calls Try.prog 30 #[.int .u8 c] w fun e w' => e = .returned (.bool (digI c)) ∧ w' = w := by
  by_cases h1 : 48 ≤ c
  · by_cases h2 : c ≤ 57
    · have hd : Hid (digI c = true) := show digI c = true by simp [digI, h1, h2]
      go_enter Try.func30, Try.ntmps30
      go_wp2
      go_ret
      exact ⟨ret_bool hd.out.symm, rfl⟩
    · have hd : Hid (digI c = false) := show digI c = false by simp [digI, h1, h2]
      go_enter Try.func30, Try.ntmps30
      go_wp2
      go_ret
      exact ⟨ret_bool hd.out.symm, rfl⟩
  · have hd : Hid (digI c = false) := show digI c = false by simp [digI, h1]
    go_enter Try.func30, Try.ntmps30
    go_wp2
    go_ret
    exact ⟨ret_bool hd.out.symm, rfl⟩

set_option maxHeartbeats 400000 in
theorem skip31 (s : ByteArray) (i : Nat) (hi : i ≤ s.size) (hs : s.size ≤ 1048576) (w : World) :
    Calls Try.prog 31 #[.string s, .int .i64 i] w fun e w' => ∃ j : Nat, e = .returned (.int .i64 j) ∧ Skip s i j ∧ w' = w := by
  go_enter Try.func31, Try.ntmps31
  go_wp2
  go_loop [1] (fun x => ∃ k : Nat, x = .int .i64 k ∧ i ≤ k ∧ k ≤ s.size ∧ ∀ j (h : j < s.size), i ≤ j → j < k → digI s[j].toNat = true) (fun x => s.size - (intOf x).toNat)
  case atStart => exact ⟨i, rfl, Nat.le_refl _, hi, fun j h a b => by omega⟩
  case round =>
    obtain ⟨k, rfl, h1, h2, h3⟩ := hrel
    have H3 : Hid _ := h3
    clear h3
    by_cases hlt : k < s.size
    · cases hd : digI s[k].toNat
      · have HD : Hid _ := hd
        go_wp2_with (go_at_call 30; refine (isDigit30 _ _).mono ?_; rintro e w' ⟨rfl, rfl⟩)
        go_ret
        exact ⟨k, rfl, ⟨h1, h2, H3.out, fun _ => HD.out⟩, rfl⟩
      · have HD : Hid _ := hd
        go_wp2_with (go_at_call 30; refine (isDigit30 _ _).mono ?_; rintro e w' ⟨rfl, rfl⟩)
        go_round
        case rel => exact ⟨k + 1, by go_num, by omega, by omega, fun j h a b => by
          by_cases e : j = k
          · subst e; exact HD.out
          · exact H3.out j h a (by omega)⟩
        case measure => simp [intOf]; omega
    · go_wp2_with fail
      go_ret
      exact ⟨k, rfl, ⟨h1, h2, H3.out, fun h => absurd h hlt⟩, rfl⟩

end Go.Proofs.Qxb6000480a.Num
