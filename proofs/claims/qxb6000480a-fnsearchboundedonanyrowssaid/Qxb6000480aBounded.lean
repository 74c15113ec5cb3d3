import Derived.Test.Qxb6000480aSearch
namespace Go.Proofs.Qxb6000480a.Srch
open Go.ChangeShapes Go.WideShapes Go.ChangeAt Go.RowKit
set_option linter.unusedVariables false

theorem Came.bnd {w : World} {a : Option Addr} {len cap : Nat} {zs : List Int} (h : Came w a len cap zs) (i : Nat) :
    -9223372036854775808 ≤ zs.getD i 0 ∧ zs.getD i 0 ≤ 9223372036854775807 := by
  rcases h with ⟨_, _, _, rfl⟩ | ⟨x, _, _, _, _, _, hw⟩
  · simp
  · by_cases hi : i < zs.length
    · have := hw zs[i] (List.getElem_mem hi)
      have e : zs.getD i 0 = zs[i] := by simp [List.getD, hi]
      rw [e]
      exact bounds_i64 this
    · have e : zs.getD i 0 = 0 := by simp [List.getD, List.getElem?_eq_none (by omega : zs.length ≤ i)]
      rw [e]
      omega

theorem res_least {zs : List Int} {S n r : Nat} (hb : ∀ i, -9223372036854775808 ≤ zs.getD i 0 ∧ zs.getD i 0 ≤ 9223372036854775807) (h : Res zs S n (-9223372036854775808) false r) : r = 0 := by
  rcases h.2.1 with h | h
  · exact h
  · have := hb ((r - 1) * S)
    unfold tm Bef at h
    rcases h with h | h
    · omega
    · exact absurd h.1 (by simp)

theorem res_greatest {zs : List Int} {S n r : Nat} (hb : ∀ i, -9223372036854775808 ≤ zs.getD i 0 ∧ zs.getD i 0 ≤ 9223372036854775807) (h : Res zs S n 9223372036854775807 true r) : r = n := by
  rcases h.2.2 with h | h
  · exact h
  · have := hb (r * S)
    unfold tm Bef at h
    by_cases e : zs.getD (r * S) 0 = 9223372036854775807
    · exact absurd (.inr ⟨rfl, e⟩) h
    · exact absurd (.inl (by omega)) h

set_option maxHeartbeats 400000 in
theorem bytes15 (a : Option Addr) (len cap : Nat) (s t : Int) (w : World) (hl : len ≤ 1048576) :
    Calls Try.prog 15 #[.slice a len cap, .int .i64 s, .int .i64 t] w fun e w' => e = .returned (.bool true) ∧ w' = w := by
  have h1 : ¬ (1048576 : Int) < (len : Int) := by omega
  go_enter Try.func15, Try.ntmps15
  go_wp2
  go_ret
  exact ⟨rfl, rfl⟩

set_option maxHeartbeats 400000 in
theorem bytes15_no (a : Option Addr) (len cap : Nat) (s t : Int) (w : World) (hl : ¬ len ≤ 1048576) :
    Calls Try.prog 15 #[.slice a len cap, .int .i64 s, .int .i64 t] w fun e w' => e = .returned (.bool false) ∧ w' = w := by
  have h1 : (1048576 : Int) < (len : Int) := by omega
  go_enter Try.func15, Try.ntmps15
  go_wp2
  go_ret
  exact ⟨rfl, rfl⟩

set_option maxHeartbeats 1000000 in
theorem bounded5 (a : Option Addr) (len cap : Nat) (zs : List Int) (s t : Int) (w : World) (hr : Came w a len cap zs) :
    Calls Try.prog 5 #[.slice a len cap, .int .i64 s, .int .i64 t] w fun e w' => e = .returned (.bool true) ∧ Below w.heap.size w w' := by
  by_cases hl : len ≤ 1048576
  · by_cases hl2 : (131072 : Int) < (len : Int)
    · go_enter Try.func5, Try.ntmps5
      go_wp2_with (go_at_call 15; refine (bytes15 _ _ _ _ _ _ hl).mono ?_; rintro e w' ⟨rfl, rfl⟩)
      go_ret
      exact ⟨rfl, Below.refl _ _⟩
    · by_cases hs1 : s < 1
      · go_enter Try.func5, Try.ntmps5
        go_wp2_with (go_at_call 15; refine (bytes15 _ _ _ _ _ _ hl).mono ?_; rintro e w' ⟨rfl, rfl⟩)
        go_ret
        exact ⟨rfl, Below.refl _ _⟩
      · by_cases hs2 : 65536 < s
        · go_enter Try.func5, Try.ntmps5
          go_wp2_with (go_at_call 15; refine (bytes15 _ _ _ _ _ _ hl).mono ?_; rintro e w' ⟨rfl, rfl⟩)
          go_ret
          exact ⟨rfl, Below.refl _ _⟩
        · obtain ⟨S, rfl⟩ := Int.eq_ofNat_of_zero_le (show (0 : Int) ≤ s by omega)
          have hS : 1 ≤ S := by omega
          obtain ⟨n, hn⟩ : ∃ n, n = len / S := ⟨_, rfl⟩
          have hni : (len : Int) / (S : Int) = (n : Int) := by rw [hn, Int.natCast_ediv]
          have hnl : n ≤ len := by rw [hn]; exact Nat.div_le_self _ _
          have HN : Hid _ := hn
          clear hn
          have h0 : ((S : Int) == 0) = false := by simp; omega
          have hbn := hr.bnd
          have HB : Hid _ := hbn
          clear hbn
          go_enter Try.func5, Try.ntmps5
          go_wp2_with fail
          refine (bytes15 _ _ _ _ _ _ hl).mono ?_
          rintro e w1 ⟨rfl, rfl⟩
          go_wp2_with fail
          refine (copy_any a len cap zs _ hl hr).mono ?_
          rintro e w2 ⟨a2, cap2, rfl, hrd, hb2⟩
          go_wp2_with fail
          refine (search13_any a2 len cap2 n S t false zs _ hl hS HN hrd).mono ?_
          rintro e w3 ⟨r3, rfl, hr3, hb3⟩
          have hd3 := hrd.step hb3
          have b3 : r3 ≤ n := hr3.1
          have H3 : Below w1.heap.size w1 w3 := hb2.trans (hb3.mono hb2.size)
          clear hb3 hr3 hrd hb2
          go_wp2_with fail
          refine (search13_any a2 len cap2 n S t true zs _ hl hS HN hd3).mono ?_
          rintro e w4 ⟨r4, rfl, hr4, hb4⟩
          have hd4 := hd3.step hb4
          have b4 : r4 ≤ n := hr4.1
          have H4 : Below w1.heap.size w1 w4 := H3.trans (hb4.mono H3.size)
          clear hb4 hr4 hd3 H3
          go_wp2_with fail
          refine (search13_any a2 len cap2 n S (-9223372036854775808) false zs _ hl hS HN hd4).mono ?_
          rintro e w5 ⟨r5, rfl, hr5, hb5⟩
          have hd5 := hd4.step hb5
          have b5 : ((r5 : Int) == 0) = true := by rw [res_least HB.out hr5]; rfl
          have H5 : Below w1.heap.size w1 w5 := H4.trans (hb5.mono H4.size)
          clear hb5 hr5 hd4 H4
          go_wp2_with fail
          refine (search13_any a2 len cap2 n S 9223372036854775807 true zs _ hl hS HN hd5).mono ?_
          rintro e w6 ⟨r6, rfl, hr6, hb6⟩
          have b6 : ((r6 : Int) == (n : Int)) = true := by rw [res_greatest HB.out hr6]; simp
          have H6 : Below w1.heap.size w1 w6 := H5.trans (hb6.mono H5.size)
          clear hb6 hr6 hd5 H5
          go_wp2_with fail
          go_ret
          exact ⟨rfl, H6⟩
  · go_enter Try.func5, Try.ntmps5
    go_wp2_with (go_at_call 15; refine (bytes15_no _ _ _ _ _ _ hl).mono ?_; rintro e w' ⟨rfl, rfl⟩)
    go_ret
    exact ⟨rfl, Below.refl _ _⟩

end Go.Proofs.Qxb6000480a.Srch
