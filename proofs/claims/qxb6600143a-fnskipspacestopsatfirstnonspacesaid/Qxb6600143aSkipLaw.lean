import Derived.Test.Qxb6600143aSkip
import Derived.Test.Qxb6600143aClone
namespace Go.Proofs.Qxb6600143a.Skip
open Go.ChangeShapes Go.WideShapes Go.ChangeAt Go.RowKit
set_option linter.unusedVariables false

set_option maxHeartbeats 400000 in
theorem bytes15 (a : Option Addr) (len cap : Nat) (s : Int) (w : World) (hl : len ≤ 1048576) :
    Calls Try.prog 15 #[.slice a len cap, .int .i64 s] w fun e w' => e = .returned (.bool true) ∧ w' = w := by
  have h1 : ¬ (1048576 : Int) < (len : Int) := by omega
  go_enter Try.func15, Try.ntmps15
  go_wp2
  go_ret
  exact ⟨rfl, rfl⟩

set_option maxHeartbeats 400000 in
theorem bytes15_no (a : Option Addr) (len cap : Nat) (s : Int) (w : World) (hm : len ≤ maxLen) (hl : ¬ len ≤ 1048576) :
    Calls Try.prog 15 #[.slice a len cap, .int .i64 s] w fun e w' => e = .returned (.bool false) ∧ w' = w := by
  unfold maxLen at hm
  have h1 : (1048576 : Int) < (len : Int) := by omega
  go_enter Try.func15, Try.ntmps15
  go_wp2
  go_ret
  exact ⟨rfl, rfl⟩

set_option maxHeartbeats 2000000 in
theorem stops6 (a : Option Addr) (len cap : Nat) (zs : List Int) (p : Int) (w : World) (hr : Cln.Came w a len cap zs) :
    Calls Try.prog 6 #[.slice a len cap, .int .i64 p] w fun e w' => e = .returned (.bool true) ∧ Below w.heap.size w w' := by
  by_cases hl : len ≤ 1048576
  · have hl2 : ¬ (1048576 : Int) < (len : Int) := by omega
    by_cases hp0 : p < 0
    · go_enter Try.func6, Try.ntmps6
      go_wp2_with (go_at_call 15; refine (bytes15 _ _ _ _ _ hl).mono ?_; rintro e w' ⟨rfl, rfl⟩)
      go_ret
      exact ⟨rfl, Below.refl _ _⟩
    · by_cases hp1 : (len : Int) ≤ p
      · go_enter Try.func6, Try.ntmps6
        go_wp2_with fail
        refine (bytes15 _ _ _ _ _ hl).mono ?_
        rintro e w1 ⟨rfl, rfl⟩
        go_wp2_with fail
        refine (Cln.clone_any a len cap zs _ hl hr).mono ?_
        rintro e w2 ⟨a2, cap2, rfl, hrd, hb2⟩
        clear hrd
        go_wp2_with fail
        refine (zz_end a2 len cap2 p _ hl hp1).mono ?_
        rintro e w3 ⟨rfl, hb3⟩
        have hfin : Below w1.heap.size w1 w3 := hb2.trans (hb3.mono hb2.size)
        clear hb2 hb3
        go_wp2_with fail
        go_ret
        exact ⟨rfl, hfin⟩
      · obtain ⟨P, rfl⟩ := Int.eq_ofNat_of_zero_le (show (0 : Int) ≤ p by omega)
        have hP : P < len := by omega
        go_enter Try.func6, Try.ntmps6
        go_wp2_with fail
        refine (bytes15 _ _ _ _ _ hl).mono ?_
        rintro e w1 ⟨rfl, rfl⟩
        go_wp2_with fail
        refine (Cln.clone_any a len cap zs _ hl hr).mono ?_
        rintro e w2 ⟨a2, cap2, rfl, hrd, hb2⟩
        obtain ⟨b, off, rfl, rfl, hb, hc⟩ := hrd.row (by omega)
        clear hrd
        have HC : Hid (∀ i, i < cap2 → w2.cell? ⟨b, off + i, none⟩ = some (.int .u8 (zs.getD i 0))) := hc
        clear hc
        go_wp2_with fail
        refine (zz_skip b off _ _ P (fun i => zs.getD i 0) _ hl hP hb HC.out).mono ?_
        rintro e w3 ⟨q, rfl, hrun, hb3⟩
        have hq0 := hrun.le
        have hq1 := hrun.top
        have HR : Hid (Run (fun i => zs.getD i 0) cap2 P q) := hrun
        have HC3 : Hid (∀ i, i < cap2 → w3.cell? ⟨b, off + i, none⟩ = some (.int .u8 (zs.getD i 0))) := fun i hi => (hb3.cell (by exact hb)).trans (HC.out i hi)
        have hfin : Below w1.heap.size w1 w3 := hb2.trans (hb3.mono hb2.size)
        clear hb2 hb3 hrun HC
        have g1 : decide ((q : Int) < (P : Int)) = false := by simp; omega
        have g2 : decide ((cap2 : Int) < (q : Int)) = false := by simp; omega
        have g3 : decide (q < P) = false := by simp; omega
        have g4 : decide (cap2 < q) = false := by simp; omega
        have g5 : decide ((cap2 : Int) ≤ (P : Int)) = false := by simp; omega
        have g6 : decide (cap2 ≤ P) = false := by simp; omega
        go_wp2_with fail
        go_loop [6] (fun x => ∃ k : Nat, x = .int .i64 k ∧ P ≤ k ∧ k ≤ q) (fun x => q - (intOf x).toNat)
        case atStart => exact ⟨P, rfl, Nat.le_refl _, hq0⟩
        case round =>
          obtain ⟨k, rfl, hk0, hk1⟩ := hrel
          by_cases hlt : k < q
          · have hck := HC3.out k (by omega)
            have hws : ws (zs.getD k 0) = true := HR.out.all k hk0 hlt
            generalize zs.getD k 0 = c at *
            go_wp2_with (go_at_call 18; refine (isWS18 _ _).mono ?_; rintro e w' ⟨rfl, rfl⟩)
            go_round
            case rel => exact ⟨k + 1, by go_num, by omega, by omega⟩
            case measure => simp [intOf]; omega
          · by_cases hqe : q = cap2
            · have hqb : ((q : Int) == (cap2 : Int)) = true := by simp; omega
              clear hqe
              go_wp2_with fail
              go_ret
              exact ⟨rfl, hfin⟩
            · have hqb : ((q : Int) == (cap2 : Int)) = false := by simp; omega
              have hql : q < cap2 := by omega
              have hck := HC3.out q hql
              have hws : ws (zs.getD q 0) = false := HR.out.non hql
              clear hqe
              generalize zs.getD q 0 = c at *
              go_wp2_with (go_at_call 18; refine (isWS18 _ _).mono ?_; rintro e w' ⟨rfl, rfl⟩)
              go_ret
              exact ⟨rfl, hfin⟩
  · have hm := hr.top
    go_enter Try.func6, Try.ntmps6
    go_wp2_with (go_at_call 15; refine (bytes15_no _ _ _ _ _ hm hl).mono ?_; rintro e w' ⟨rfl, rfl⟩)
    go_ret
    exact ⟨rfl, Below.refl _ _⟩

end Go.Proofs.Qxb6600143a.Skip
