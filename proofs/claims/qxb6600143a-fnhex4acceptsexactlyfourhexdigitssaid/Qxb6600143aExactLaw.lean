import Derived.Test.Qxb6600143aExact
namespace Go.Proofs.Qxb6600143a.Hex
open Go.ChangeShapes Go.WideShapes Go.ChangeAt Go.RowKit
set_option linter.unusedVariables false

set_option maxHeartbeats 400000 in
theorem bytes24 (a : Option Addr) (len cap : Nat) (s : Int) (w : World) (hl : len ≤ 1048576) :
    Calls Try.prog 24 #[.slice a len cap, .int .i64 s] w fun e w' => e = .returned (.bool true) ∧ w' = w := by
  have h1 : ¬ (1048576 : Int) < (len : Int) := by omega
  go_enter Try.func24, Try.ntmps24
  go_wp2
  go_ret
  exact ⟨rfl, rfl⟩

set_option maxHeartbeats 400000 in
theorem bytes24_no (a : Option Addr) (len cap : Nat) (s : Int) (w : World) (hm : len ≤ maxLen) (hl : ¬ len ≤ 1048576) :
    Calls Try.prog 24 #[.slice a len cap, .int .i64 s] w fun e w' => e = .returned (.bool false) ∧ w' = w := by
  unfold maxLen at hm
  have h1 : (1048576 : Int) < (len : Int) := by omega
  go_enter Try.func24, Try.ntmps24
  go_wp2
  go_ret
  exact ⟨rfl, rfl⟩

set_option maxHeartbeats 400000 in
theorem exact10_short (a : Option Addr) (len cap : Nat) (zs : List Int) (p : Int) (w : World) (hr : Cln.Came w a len cap zs) (hl : len ≤ 1048576) (h0 : 0 ≤ p) (h1 : p ≤ 9223372036854775807) (hs : (len : Int) - p < 4) :
    Calls Try.prog 10 #[.slice a len cap, .int .i64 p] w fun e w' => e = .returned (.bool true) ∧ Below w.heap.size w w' := by
  go_enter Try.func10, Try.ntmps10
  go_wp2_with fail
  refine (bytes24 _ _ _ _ _ hl).mono ?_
  rintro e w1 ⟨rfl, rfl⟩
  go_wp2_with fail
  refine (Cln.clone_any a len cap zs _ hl hr).mono ?_
  rintro e w2 ⟨a2, cap2, rfl, hrd, hb2⟩
  clear hrd
  go_wp2_with fail
  refine (zz_short a2 len cap2 p _ (by omega) h0 h1 hs).mono ?_
  rintro e w3 ⟨rfl, hb3⟩
  have hfin : Below w1.heap.size w1 w3 := hb2.trans (hb3.mono hb2.size)
  clear hb2 hb3
  go_wp2_with fail
  go_ret
  exact ⟨rfl, hfin⟩

set_option maxHeartbeats 4000000 in
theorem exact10_long (a : Option Addr) (len cap P : Nat) (zs : List Int) (w : World) (hr : Cln.Came w a len cap zs) (hl : len ≤ 1048576) (hP : P + 4 ≤ len) :
    Calls Try.prog 10 #[.slice a len cap, .int .i64 P] w fun e w' => e = .returned (.bool true) ∧ Below w.heap.size w w' := by
  have HBd : Hid (∀ i, 0 ≤ zs.getD i 0 ∧ zs.getD i 0 ≤ 255) := hr.bnd
  go_enter Try.func10, Try.ntmps10
  go_wp2_with fail
  refine (bytes24 _ _ _ _ _ hl).mono ?_
  rintro e w1 ⟨rfl, rfl⟩
  go_wp2_with fail
  refine (Cln.clone_any a len cap zs _ hl hr).mono ?_
  rintro e w2 ⟨a2, cap2, rfl, hrd, hb2⟩
  obtain ⟨b, off, rfl, hcl, hb, hc⟩ := hrd.row (by omega)
  subst hcl
  clear hrd hr
  obtain ⟨g, hg⟩ : ∃ g : Nat → Int, g = fun i => zs.getD (P + i) 0 := ⟨_, rfl⟩
  have hc4 : ∀ i, i < 4 → w2.cell? ⟨b, off + P + i, none⟩ = some (.int .u8 (g i)) := fun i hi => by
    rw [hg, Nat.add_assoc]; exact hc _ (by omega)
  have HG : Hid (∀ i, 0 ≤ g i ∧ g i ≤ 255) := fun i => by rw [hg]; exact HBd.out _
  clear hg HBd hc
  have HC : Hid _ := hc4
  clear hc4
  go_wp2_with fail
  refine (zz_long b off _ _ P g _ (by omega) (by omega) (Nat.le_refl _) (by omega) hb HC.out).mono ?_
  rintro e w3 ⟨hcase, hb3⟩
  have HC3 : Hid (∀ i, i < 4 → w3.cell? ⟨b, off + (P + i), none⟩ = some (.int .u8 (g i))) := fun i hi => by rw [← Nat.add_assoc]; exact (hb3.cell (by exact hb)).trans (HC.out i hi)
  have g4 : decide ((4 : Int) ≤ (cap2 : Int) - (P : Int)) = true := by simp; omega
  have hb' : b < w3.heap.size := Nat.lt_of_lt_of_le hb hb3.size
  have hfin : Below w1.heap.size w1 w3 := hb2.trans (hb3.mono hb2.size)
  clear hb2 hb3 HC hb
  rcases hcase with ⟨hA, rfl⟩ | ⟨hA, rfl⟩
  · have hall : allB g 4 = true := (allB_iff g 4).2 hA
    have HAll : Hid _ := hall
    have hv := val_word hA
    obtain ⟨u, hu⟩ : ∃ u, val g 4 = u := ⟨_, rfl⟩
    rw [hu] at hv
    have HD : Hid (∀ i, i < 4 → hexd (dg u i) false = lower (g i)) := fun i hi => by
      rw [← hu, val_digit hA i hi]; exact hexd_lower (hA i hi)
    rw [hu]
    obtain ⟨hv0, hv1⟩ := hv
    clear hA hall hu
    go_wp2_with fail
    go_loop [8, 9] (fun v x => ∃ k : Nat, x = .int .i64 k ∧ k ≤ 4 ∧ v = .bool (allB g k)) (fun _ x => 4 - (intOf x).toNat)
    case atStart => exact ⟨0, rfl, by omega, rfl⟩
    case round =>
      obtain ⟨k, rfl, hk, rfl⟩ := hrel
      by_cases hlt : k < 4
      · have hck := HC3.out k hlt
        have HS : Hid (allB g (k + 1) = (allB g k && isHexB (g k))) := rfl
        generalize g k = c at *
        cases hx : isHexB c
        · rw [hx] at HS
          go_wp2_with (go_at_call 25; refine (isHex25 _ _).mono ?_; rintro e w' ⟨rfl, rfl⟩)
          go_round
          case rel => exact ⟨k + 1, by go_num, by omega, by rw [HS.out]; simp⟩
          case measure => simp [intOf]; omega
        · rw [hx] at HS
          go_wp2_with (go_at_call 25; refine (isHex25 _ _).mono ?_; rintro e w' ⟨rfl, rfl⟩)
          go_round
          case rel => exact ⟨k + 1, by go_num, by omega, by rw [HS.out]; simp⟩
          case measure => simp [intOf]; omega
      · have hk4 : k = 4 := by omega
        subst hk4
        rw [HAll.out]
        have h15 := and15
        have d1 : decide (u < 0) = false := by simp; omega
        have d2 : decide (65535 < u) = false := by simp; omega
        go_wp2_with fail
        go_loopw [10] (fun x wr => ∃ k : Nat, x = .int .i64 k ∧ k ≤ 4 ∧ Below w3.heap.size w3 wr) (fun x _ => 4 - (intOf x).toNat)
        case atStart => exact ⟨0, rfl, by omega, Below.refl _ _⟩
        case round =>
          obtain ⟨k, rfl, hk, hbw⟩ := hrel
          by_cases hlt : k < 4
          · have hck : wr.cell? ⟨b, off + (P + k), none⟩ = some (.int .u8 (g k)) := (hbw.cell (by exact hb')).trans (HC3.out k hlt)
            have hbd := HG.out k
            have HDk := HD.out k hlt
            have hk4 : k = 0 ∨ k = 1 ∨ k = 2 ∨ k = 3 := by omega
            clear hk hlt
            generalize g k = c at *
            rcases hk4 with rfl | rfl | rfl | rfl
            · have hne : (hexd (u / 4096 % 16) false != lower c) = false := by
                have e : hexd (u / 4096 % 16) false = lower c := HDk
                rw [e]; simp
              simp only [Nat.add_zero] at hck
              clear HDk
              go_wp2_with fail
              go_quiet ((first | (go_at_call 22; exact Calls.quiet_of_same (hexDigit22 _ _ _ (by omega) (by omega))) | (go_at_call 26; exact Calls.quiet_of_same (lower26 _ _ hbd.1 hbd.2))))
              go_wp2_with fail
              go_roundw
              case rel => exact ⟨1, by go_num, by omega, below_drewN hbw _⟩
              case measure => simp [intOf]
            · have hne : (hexd (u / 256 % 16) false != lower c) = false := by
                have e : hexd (u / 256 % 16) false = lower c := HDk
                rw [e]; simp
              clear HDk
              go_wp2_with fail
              go_quiet ((first | (go_at_call 22; exact Calls.quiet_of_same (hexDigit22 _ _ _ (by omega) (by omega))) | (go_at_call 26; exact Calls.quiet_of_same (lower26 _ _ hbd.1 hbd.2))))
              go_wp2_with fail
              go_roundw
              case rel => exact ⟨2, by go_num, by omega, below_drewN hbw _⟩
              case measure => simp [intOf]
            · have hne : (hexd (u / 16 % 16) false != lower c) = false := by
                have e : hexd (u / 16 % 16) false = lower c := HDk
                rw [e]; simp
              clear HDk
              go_wp2_with fail
              go_quiet ((first | (go_at_call 22; exact Calls.quiet_of_same (hexDigit22 _ _ _ (by omega) (by omega))) | (go_at_call 26; exact Calls.quiet_of_same (lower26 _ _ hbd.1 hbd.2))))
              go_wp2_with fail
              go_roundw
              case rel => exact ⟨3, by go_num, by omega, below_drewN hbw _⟩
              case measure => simp [intOf]
            · have hne : (hexd (u % 16) false != lower c) = false := by
                have e : hexd (u % 16) false = lower c := HDk
                rw [e]; simp
              clear HDk
              go_wp2_with fail
              go_quiet ((first | (go_at_call 22; exact Calls.quiet_of_same (hexDigit22 _ _ _ (by omega) (by omega))) | (go_at_call 26; exact Calls.quiet_of_same (lower26 _ _ hbd.1 hbd.2))))
              go_wp2_with fail
              go_roundw
              case rel => exact ⟨4, by go_num, by omega, below_drewN hbw _⟩
              case measure => simp [intOf]
          · go_wp2_with fail
            go_ret
            exact ⟨rfl, hfin.trans (hbw.mono hfin.size)⟩
  · have hall : allB g 4 = false := by
      rw [Bool.eq_false_iff]; intro h; exact hA ((allB_iff g 4).1 h)
    have HAll : Hid _ := hall
    clear hA hall
    go_wp2_with fail
    go_loop [8, 9] (fun v x => ∃ k : Nat, x = .int .i64 k ∧ k ≤ 4 ∧ v = .bool (allB g k)) (fun _ x => 4 - (intOf x).toNat)
    case atStart => exact ⟨0, rfl, by omega, rfl⟩
    case round =>
      obtain ⟨k, rfl, hk, rfl⟩ := hrel
      by_cases hlt : k < 4
      · have hck := HC3.out k hlt
        have HS : Hid (allB g (k + 1) = (allB g k && isHexB (g k))) := rfl
        generalize g k = c at *
        cases hx : isHexB c
        · rw [hx] at HS
          go_wp2_with (go_at_call 25; refine (isHex25 _ _).mono ?_; rintro e w' ⟨rfl, rfl⟩)
          go_round
          case rel => exact ⟨k + 1, by go_num, by omega, by rw [HS.out]; simp⟩
          case measure => simp [intOf]; omega
        · rw [hx] at HS
          go_wp2_with (go_at_call 25; refine (isHex25 _ _).mono ?_; rintro e w' ⟨rfl, rfl⟩)
          go_round
          case rel => exact ⟨k + 1, by go_num, by omega, by rw [HS.out]; simp⟩
          case measure => simp [intOf]; omega
      · have hk4 : k = 4 := by omega
        subst hk4
        rw [HAll.out]
        go_wp2_with fail
        go_ret
        exact ⟨rfl, hfin⟩

set_option maxHeartbeats 400000 in
theorem exact10 (a : Option Addr) (len cap : Nat) (zs : List Int) (p : Int) (w : World) (hr : Cln.Came w a len cap zs) (h1 : p ≤ 9223372036854775807) :
    Calls Try.prog 10 #[.slice a len cap, .int .i64 p] w fun e w' => e = .returned (.bool true) ∧ Below w.heap.size w w' := by
  by_cases hl : len ≤ 1048576
  · by_cases h0 : p < 0
    · have hl2 : ¬ (1048576 : Int) < (len : Int) := by omega
      go_enter Try.func10, Try.ntmps10
      go_wp2_with (go_at_call 24; refine (bytes24 _ _ _ _ _ hl).mono ?_; rintro e w' ⟨rfl, rfl⟩)
      go_ret
      exact ⟨rfl, Below.refl _ _⟩
    · by_cases hs : (len : Int) - p < 4
      · exact exact10_short a len cap zs p w hr hl (by omega) h1 hs
      · obtain ⟨P, rfl⟩ := Int.eq_ofNat_of_zero_le (show (0 : Int) ≤ p by omega)
        exact exact10_long a len cap P zs w hr hl (by omega)
  · have hm := hr.top
    go_enter Try.func10, Try.ntmps10
    go_wp2_with (go_at_call 24; refine (bytes24_no _ _ _ _ _ hm hl).mono ?_; rintro e w' ⟨rfl, rfl⟩)
    go_ret
    exact ⟨rfl, Below.refl _ _⟩

end Go.Proofs.Qxb6600143a.Hex
