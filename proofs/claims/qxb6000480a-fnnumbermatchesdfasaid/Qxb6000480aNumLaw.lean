import Derived.Test.Qxb6000480aNumber
namespace Go.Proofs.Qxb6000480a.Num
open Go.ChangeShapes Go.WideShapes Go.ChangeAt Go.RowKit
open Dfa
set_option linter.unusedVariables false

set_option maxHeartbeats 400000 in
theorem number17 (s : ByteArray) (off : Nat) (hs : s.size ≤ 1048576) (ho : off < s.size) (w : World) :
    Calls Try.prog 17 #[.string s, .int .i64 off] w fun e w' => Ans s off e ∧ Grown w w' := by
  go_enter Try.func17, Try.ntmps17
  go_wp2_with fail
  refine (number25 s off w.heap.size hs ho _ (by simp) (by simp) (by simp)).mono ?_
  rintro e w1 ⟨st, j, hF, rfl, hc, hg⟩
  have HF : Hid _ := hF
  have HG : Hid (Grown w w1) := hg w (Nat.le_refl _) ((Grown.refl w).alloc _ _)
  clear hg hF
  generalize hx : (if acc st = true then (j : Int) else (off : Int)) = r at *
  have HX : Hid _ := hx
  clear hx
  go_wp2_with fail
  go_ret2
  exact ⟨⟨st, j, HF.out, by rw [HX.out]; rfl⟩, HG.out⟩

set_option maxHeartbeats 1000000 in
theorem dfa6 (s : ByteArray) (off : Int) (hm : s.size ≤ maxLen) (w : World) :
    Calls Try.prog 6 #[.string s, .int .i64 off] w fun e w' => e = .returned (.bool true) ∧ Grown w w' := by
  by_cases hl : s.size ≤ 1048576
  · have hl2 : ¬ (1048576 : Int) < (s.size : Int) := by omega
    by_cases h0 : off < 0
    · go_enter Try.func6, Try.ntmps6
      go_wp2_with (go_at_call 16; refine (bytes16 _ _ _ hl).mono ?_; rintro e w' ⟨rfl, rfl⟩)
      go_ret
      exact ⟨rfl, Grown.refl _⟩
    · by_cases h1 : (s.size : Int) ≤ off
      · go_enter Try.func6, Try.ntmps6
        go_wp2_with (go_at_call 16; refine (bytes16 _ _ _ hl).mono ?_; rintro e w' ⟨rfl, rfl⟩)
        go_ret
        exact ⟨rfl, Grown.refl _⟩
      · obtain ⟨n, rfl⟩ := Int.eq_ofNat_of_zero_le (show (0 : Int) ≤ off by omega)
        have ho : n < s.size := by omega
        go_enter Try.func6, Try.ntmps6
        go_wp2_with fail
        refine (bytes16 _ _ _ hl).mono ?_
        rintro e w1 ⟨rfl, rfl⟩
        go_wp2_with fail
        refine (number17 s n hl ho _).mono ?_
        rintro e w2 ⟨⟨st, j, hF, rfl⟩, hg⟩
        have HG : Hid _ := hg
        have HF : Hid _ := hF
        clear hg hF
        cases ha : acc st
        all_goals
          simp only [if_true, if_false, Bool.false_eq_true]
          go_wp2_with fail
          refine (model18 s n hl ho _).mono ?_
          rintro e w3 ⟨⟨st', j', hF', rfl⟩, rfl⟩
          obtain ⟨rfl, rfl⟩ : st = st' ∧ j = j' := by
            have := HF.out.symm.trans hF'
            simpa using this
          clear hF'
          rw [ha]
          simp only [if_true, if_false, Bool.false_eq_true]
          go_wp2_with fail
          go_ret
          exact ⟨rfl, HG.out⟩
  · go_enter Try.func6, Try.ntmps6
    go_wp2_with (go_at_call 16; refine (bytes16_no _ _ _ hm hl).mono ?_; rintro e w' ⟨rfl, rfl⟩)
    go_ret
    exact ⟨rfl, Grown.refl _⟩

end Go.Proofs.Qxb6000480a.Num
