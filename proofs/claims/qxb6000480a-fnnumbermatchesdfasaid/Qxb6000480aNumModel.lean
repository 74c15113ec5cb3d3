import Derived.Test.Qxb6000480aNumParts
import Derived.Deep.Light
namespace Go.Proofs.Qxb6000480a.Num
open Go.ChangeShapes Go.WideShapes Go.ChangeAt Go.RowKit
open Dfa
set_option linter.unusedVariables false

theorem s0 (c : Int) : stepI 0 c = if c = 45 then 1 else if c = 48 then 2 else if 48 ≤ c ∧ c ≤ 57 then 3 else -1 := by simp [stepI, digI]
theorem s1 (c : Int) : stepI 1 c = if c = 48 then 2 else if 48 ≤ c ∧ c ≤ 57 then 3 else -1 := by simp [stepI, digI]
theorem s2 (c : Int) : stepI 2 c = if c = 46 then 4 else if c = 101 ∨ c = 69 then 6 else -1 := by simp [stepI, expI]
theorem s3 (c : Int) : stepI 3 c = if 48 ≤ c ∧ c ≤ 57 then 3 else if c = 46 then 4 else if c = 101 ∨ c = 69 then 6 else -1 := by simp [stepI, digI, expI]
theorem s4 (c : Int) : stepI 4 c = if 48 ≤ c ∧ c ≤ 57 then 5 else -1 := by simp [stepI, digI]
theorem s5 (c : Int) : stepI 5 c = if 48 ≤ c ∧ c ≤ 57 then 5 else if c = 101 ∨ c = 69 then 6 else -1 := by simp [stepI, digI, expI]
theorem s6 (c : Int) : stepI 6 c = if c = 43 ∨ c = 45 then 7 else if 48 ≤ c ∧ c ≤ 57 then 8 else -1 := by simp [stepI, digI]
theorem s7 (c : Int) : stepI 7 c = if 48 ≤ c ∧ c ≤ 57 then 8 else -1 := by simp [stepI, digI]
theorem s8 (c : Int) : stepI 8 c = if 48 ≤ c ∧ c ≤ 57 then 8 else -1 := by simp [stepI, digI]

set_option maxHeartbeats 4000000 in
theorem step26 (st c : Int) (h0 : 0 ≤ st) (h8 : st ≤ 8) (w : World) :
    Calls Try.prog 26 #[.int .i64 st, .int .u8 c] w fun e w' => e = .returned (.int .i64 (stepI st c)) ∧ w' = w := by
  have hc : st = 0 ∨ st = 1 ∨ st = 2 ∨ st = 3 ∨ st = 4 ∨ st = 5 ∨ st = 6 ∨ st = 7 ∨ st = 8 := by omega
  clear h0 h8
  rcases hc with rfl | rfl | rfl | rfl | rfl | rfl | rfl | rfl | rfl
  all_goals
    go_enter Try.func26, Try.ntmps26
    go_wp2
    all_goals
      go_ret
      refine ⟨ret_int ?_, rfl⟩
      go_light
      try simp only [beq_iff_eq, beq_eq_false_iff_ne] at *
      simp only [s0, s1, s2, s3, s4, s5, s6, s7, s8]
      (repeat' split) <;> first | omega | (simp at *; done)

/-- Where the DFA stops, the model's last test and answer. -/
def Ans (s : ByteArray) (off : Nat) (e : Ending) : Prop :=
  ∃ (st : Int) (j : Nat), F s 0 off = (st, j) ∧ e = .returned (.tuple #[.int .i64 (if acc st = true then (j : Int) else (off : Int)), .bool (acc st)])

theorem ans_yes {s : ByteArray} {off k : Nat} {st : Int} (h : F s 0 off = (st, k)) (ha : st = 2 ∨ st = 3 ∨ st = 5 ∨ st = 8) : Ans s off (.returned (.tuple #[.int .i64 (k : Int), .bool true])) := by
  have e : acc st = true := by rcases ha with rfl | rfl | rfl | rfl <;> rfl
  exact ⟨st, k, h, by simp [e]⟩

theorem ans_no {s : ByteArray} {off k : Nat} {st : Int} (h : F s 0 off = (st, k)) (ha : ¬ (st = 2 ∨ st = 3 ∨ st = 5 ∨ st = 8)) : Ans s off (.returned (.tuple #[.int .i64 (off : Int), .bool false])) := by
  have e : acc st = false := by simp [acc]; omega
  exact ⟨st, k, h, by simp [e]⟩

set_option maxHeartbeats 4000000 in
theorem model18 (s : ByteArray) (off : Nat) (hs : s.size ≤ 1048576) (ho : off < s.size) (w : World) :
    Calls Try.prog 18 #[.string s, .int .i64 off] w fun e w' => Ans s off e ∧ w' = w := by
  go_enter Try.func18, Try.ntmps18
  go_wp2
  go_loop [6, 7] (fun x y => ∃ (st : Int) (k : Nat), x = .int .i64 st ∧ y = .int .i64 k ∧ 0 ≤ st ∧ st ≤ 8 ∧ k ≤ s.size ∧ Hid (F s 0 off = F s st k)) (fun _ y => s.size - (intOf y).toNat)
  case atStart => exact ⟨0, off, rfl, rfl, by omega, by omega, by omega, rfl⟩
  case round =>
    obtain ⟨st, k, rfl, rfl, h0, h8, hk, hF⟩ := hrel
    by_cases hlt : k < s.size
    · by_cases hn : stepI st s[k].toNat < 0
      · have HE : Hid (F s 0 off = (st, k)) := hF.out.trans (F_stop hlt hn)
        clear hF
        go_wp2_with fail
        refine (step26 st s[k].toNat h0 h8 _).mono ?_
        rintro e w1 ⟨rfl, rfl⟩
        generalize stepI st s[k].toNat = nx at *
        go_wp2_with fail
        all_goals go_ret2
        · exact ⟨ans_yes HE.out (by omega), rfl⟩
        · exact ⟨ans_yes HE.out (by omega), rfl⟩
        · exact ⟨ans_yes HE.out (by omega), rfl⟩
        · exact ⟨ans_yes HE.out (by go_light; simp only [beq_iff_eq] at *; omega), rfl⟩
        · exact ⟨ans_no HE.out (by go_light; simp only [beq_eq_false_iff_ne] at *; omega), rfl⟩
      · have HE : Hid (F s 0 off = F s (stepI st s[k].toNat) (k + 1)) := hF.out.trans (F_step hlt hn)
        have hr := step_range st s[k].toNat
        clear hF
        go_wp2_with fail
        refine (step26 st s[k].toNat h0 h8 _).mono ?_
        rintro e w1 ⟨rfl, rfl⟩
        generalize stepI st s[k].toNat = nx at *
        go_wp2_with fail
        go_round
        case rel => exact ⟨nx, k + 1, rfl, by go_num, by omega, by omega, by omega, HE⟩
        case measure => simp [intOf]; omega
    · have HE : Hid (F s 0 off = (st, k)) := hF.out.trans (F_end st (by omega))
      clear hF
      go_wp2_with fail
      all_goals go_ret2
      · exact ⟨ans_yes HE.out (by omega), rfl⟩
      · exact ⟨ans_yes HE.out (by omega), rfl⟩
      · exact ⟨ans_yes HE.out (by omega), rfl⟩
      · exact ⟨ans_yes HE.out (by go_light; simp only [beq_iff_eq] at *; omega), rfl⟩
      · exact ⟨ans_no HE.out (by go_light; simp only [beq_eq_false_iff_ne] at *; omega), rfl⟩

end Go.Proofs.Qxb6000480a.Num
