import Derived.Test.Qxb6000480aSorted
namespace Go.Proofs.Qxb6000480a.Srch
open Go.ChangeShapes Go.WideShapes Go.ChangeAt Go.RowKit
set_option linter.unusedVariables false

/-! ### The plain law -/
def cnt (f : Nat → Bool) : Nat → Nat
  | 0 => 0
  | k + 1 => cnt f k + if f k = true then 1 else 0

theorem cnt_le (f : Nat → Bool) (k : Nat) : cnt f k ≤ k := by
  induction k with
  | zero => exact Nat.le_refl _
  | succ k ih => simp only [cnt]; split <;> omega

theorem cnt_all {f : Nat → Bool} {r : Nat} (h : ∀ i, i < r → f i = true) : cnt f r = r := by
  induction r with
  | zero => rfl
  | succ r ih => simp only [cnt]; rw [ih (fun i hi => h i (by omega)), h r (by omega)]; simp

theorem cnt_is {f : Nat → Bool} {r : Nat} (h : ∀ i, i < r → f i = true) : ∀ n, r ≤ n → (∀ i, r ≤ i → i < n → f i = false) → cnt f n = r := by
  intro n
  induction n with
  | zero => intro h0 _; have : r = 0 := by omega
            rw [this]; rfl
  | succ n ih =>
    intro h0 h1
    by_cases e : r = n + 1
    · rw [← e]; exact cnt_all h
    · simp only [cnt]
      rw [ih (by omega) (fun i a b => h1 i a (by omega)), h1 n (by omega) (by omega)]
      simp

theorem Asc.le {zs : List Int} {S n : Nat} (h : Asc zs S n) : ∀ {i j : Nat}, i ≤ j → j < n → tm zs S i ≤ tm zs S j := by
  intro i j
  induction j with
  | zero => intro h0 h1; have : i = 0 := by omega
            rw [this]; exact Int.le_refl _
  | succ j ih =>
    intro h0 h1
    by_cases e : i = j + 1
    · rw [e]; exact Int.le_refl _
    · have a := ih (by omega) (by omega)
      have b := h (j + 1) (by omega) h1
      rw [Nat.add_sub_cancel] at b
      omega

theorem res_cnt {zs : List Int} {S n r : Nat} {t : Int} {after : Bool} {f : Nat → Bool} (hf : ∀ i, f i = true ↔ Bef after t (tm zs S i)) (ha : Asc zs S n) (h : Res zs S n t after r) : cnt f n = r := by
  obtain ⟨h1, h2, h3⟩ := h
  refine cnt_is (fun i hi => ?_) n h1 (fun i hi hn => ?_)
  · rw [hf]
    rcases h2 with h2 | h2
    · omega
    · have := ha.le (show i ≤ r - 1 by omega) (by omega)
      unfold Bef at h2 ⊢
      rcases h2 with h2 | ⟨h2, h4⟩
      · left; omega
      · by_cases e : tm zs S i = t
        · exact .inr ⟨h2, e⟩
        · left; omega
  · have hb : ¬ f i = true := by
      rw [hf]
      rcases h3 with h3 | h3
      · omega
      · have := ha.le hi hn
        intro hB
        apply h3
        unfold Bef at hB ⊢
        rcases hB with hB | ⟨hB, h4⟩
        · left; omega
        · by_cases e : tm zs S r = t
          · exact .inr ⟨hB, e⟩
          · left; omega
    simpa using hb

def fb (zs : List Int) (S : Nat) (t : Int) (i : Nat) : Bool := decide (tm zs S i < t)
def fa (zs : List Int) (S : Nat) (t : Int) (i : Nat) : Bool := decide (tm zs S i ≤ t)

theorem fb_iff (zs : List Int) (S : Nat) (t : Int) (i : Nat) : fb zs S t i = true ↔ Bef false t (tm zs S i) := by
  simp [fb, Bef]
theorem fa_iff (zs : List Int) (S : Nat) (t : Int) (i : Nat) : fa zs S t i = true ↔ Bef true t (tm zs S i) := by
  simp only [fa, Bef, decide_eq_true_eq, true_and]
  omega

/-! ### The walk -/
theorem cell_below {w wx : World} {x : Addr} {v : Value} (h : w.cell? x = some v) (hb : Below w.heap.size w wx) : wx.cell? x = some v := by
  refine (hb.cell ?_).trans h
  by_cases hlt : x.block < w.heap.size
  · exact hlt
  · exfalso
    have hs := World.cell?_spot h
    simp [World.cell?, hs] at h
    rw [Array.getElem?_eq_none (by omega)] at h
    simp at h

theorem Came.step {w wx : World} {a : Option Addr} {len cap : Nat} {zs : List Int} (h : Came w a len cap zs) (hb : Below w.heap.size w wx) : Came wx a len cap zs := by
  rcases h with h | ⟨x, h0, h1, h2, h3, h4, h5⟩
  · exact .inl h
  · exact .inr ⟨x, h0, h1, h2, h3, fun i hi => cell_below (h4 i hi) hb, h5⟩

set_option maxHeartbeats 400000 in
theorem bytes10 (a : Option Addr) (len cap : Nat) (s t : Int) (w : World) (hl : len ≤ 1048576) :
    Calls Try.prog 10 #[.slice a len cap, .int .i64 s, .int .i64 t] w fun e w' => e = .returned (.bool true) ∧ w' = w := by
  have h1 : ¬ (1048576 : Int) < (len : Int) := by omega
  go_enter Try.func10, Try.ntmps10
  go_wp2
  go_ret
  exact ⟨rfl, rfl⟩

set_option maxHeartbeats 400000 in
theorem bytes10_no (a : Option Addr) (len cap : Nat) (s t : Int) (w : World) (hl : ¬ len ≤ 1048576) :
    Calls Try.prog 10 #[.slice a len cap, .int .i64 s, .int .i64 t] w fun e w' => e = .returned (.bool false) ∧ w' = w := by
  have h1 : (1048576 : Int) < (len : Int) := by omega
  go_enter Try.func10, Try.ntmps10
  go_wp2
  go_ret
  exact ⟨rfl, rfl⟩

set_option maxHeartbeats 1000000 in
theorem linear3 (a : Option Addr) (len cap : Nat) (zs : List Int) (s t : Int) (w : World) (hr : Came w a len cap zs) :
    Calls Try.prog 3 #[.slice a len cap, .int .i64 s, .int .i64 t] w fun e w' => e = .returned (.bool true) ∧ Below w.heap.size w w' := by
  by_cases hl : len ≤ 1048576
  · by_cases hl2 : (131072 : Int) < (len : Int)
    · go_enter Try.func3, Try.ntmps3
      go_wp2_with (go_at_call 10; refine (bytes10 _ _ _ _ _ _ hl).mono ?_; rintro e w' ⟨rfl, rfl⟩)
      go_ret
      exact ⟨rfl, Below.refl _ _⟩
    · by_cases hs1 : s < 1
      · go_enter Try.func3, Try.ntmps3
        go_wp2_with (go_at_call 10; refine (bytes10 _ _ _ _ _ _ hl).mono ?_; rintro e w' ⟨rfl, rfl⟩)
        go_ret
        exact ⟨rfl, Below.refl _ _⟩
      · by_cases hs2 : 65536 < s
        · go_enter Try.func3, Try.ntmps3
          go_wp2_with (go_at_call 10; refine (bytes10 _ _ _ _ _ _ hl).mono ?_; rintro e w' ⟨rfl, rfl⟩)
          go_ret
          exact ⟨rfl, Below.refl _ _⟩
        · obtain ⟨S, rfl⟩ := Int.eq_ofNat_of_zero_le (show (0 : Int) ≤ s by omega)
          have hS : 1 ≤ S := by omega
          obtain ⟨n, hn⟩ : ∃ n, n = len / S := ⟨_, rfl⟩
          have hni : (len : Int) / (S : Int) = (n : Int) := by rw [hn, Int.natCast_ediv]
          have hnl : n ≤ len := by rw [hn]; exact Nat.div_le_self _ _
          have hnS : n * S ≤ len := by rw [hn]; exact Nat.div_mul_le_self _ _
          have HN : Hid _ := hn
          clear hn
          have h0 : ((S : Int) == 0) = false := by simp; omega
          go_enter Try.func3, Try.ntmps3
          go_wp2_with fail
          refine (bytes10 _ _ _ _ _ _ hl).mono ?_
          rintro e w1 ⟨rfl, rfl⟩
          go_wp2_with fail
          refine (sorted11_any a len cap n S zs _ hl hS HN hr).mono ?_
          rintro e w2 ⟨sb, rfl, hsb, hb2⟩
          cases sb
          · clear hsb
            go_wp2_with fail
            go_ret
            exact ⟨rfl, hb2⟩
          have HA : Hid (Asc zs S n) := hsb rfl
          clear hsb
          have hr2 := hr.step hb2
          clear hr
          go_wp2_with fail
          refine (copy_any a len cap zs _ hl hr2).mono ?_
          rintro e w3 ⟨a3, cap3, rfl, hrd, hb3⟩
          have H3 : Below w1.heap.size w1 w3 := hb2.trans (hb3.mono hb2.size)
          clear hb3 hb2 hr2
          go_wp2_with fail
          have hcase : n = 0 ∨ ∃ b off, a3 = some ⟨b, off, none⟩ ∧ ∀ i, i < n → w3.cell? ⟨b, off + i * S, none⟩ = some (.int .i64 (tm zs S i)) := by
            rcases id hrd with ⟨_, h⟩ | ⟨b, off, h1, h2, h3⟩
            · left; rw [HN.out, h]; simp
            · exact .inr ⟨b, off, h1, fun i hi => h3 _ (idx hi hnS hS)⟩
          have Hrd : Hid (Rd w3 a3 len zs) := hrd
          clear hrd
          rcases hcase with hn0 | ⟨b, off, rfl, hcl⟩
          · have HN0 : Hid _ := hn0
            clear hn0
            go_loop [8, 9, 10] (fun x y i => x = .int .i64 0 ∧ y = .int .i64 0 ∧ i = .int .i64 0) (fun _ _ _ => 0)
            case atStart => exact ⟨rfl, rfl, rfl⟩
            case round =>
              obtain ⟨rfl, rfl, rfl⟩ := hrel
              have hz : ¬ (0 : Int) < (n : Int) := by have := HN0.out; omega
              go_wp2_with fail
              refine (search13_any a3 len cap3 n S t false zs _ hl hS HN Hrd.out).mono ?_
              rintro e w4 ⟨r4, rfl, hr4, hb4⟩
              have hd4 := Hrd.out.step hb4
              have b4 : ((r4 : Int) == 0) = true := by have := hr4.1; have := HN0.out; simp; omega
              have H4 : Below w1.heap.size w1 w4 := H3.trans (hb4.mono H3.size)
              clear hb4 hr4 H3
              go_wp2_with fail
              refine (search13_any a3 len cap3 n S t true zs _ hl hS HN hd4).mono ?_
              rintro e w5 ⟨r5, rfl, hr5, hb5⟩
              have b5 : ((r5 : Int) == 0) = true := by have := hr5.1; have := HN0.out; simp; omega
              have H5 : Below w1.heap.size w1 w5 := H4.trans (hb5.mono H4.size)
              clear hb5 hr5 hd4 H4
              go_wp2_with fail
              go_ret
              exact ⟨rfl, H5⟩
          · go_loop [8, 9, 10] (fun x y i => ∃ k : Nat, k ≤ n ∧ i = .int .i64 k ∧ x = .int .i64 (cnt (fb zs S t) k : Nat) ∧ y = .int .i64 (cnt (fa zs S t) k : Nat)) (fun _ _ i => n - (intOf i).toNat)
            case atStart => exact ⟨0, Nat.zero_le _, rfl, rfl, rfl⟩
            case round =>
              obtain ⟨k, hk, rfl, rfl, rfl⟩ := hrel
              have lb := cnt_le (fb zs S t) k
              have la := cnt_le (fa zs S t) k
              by_cases hlt : k < n
              · have c1 := hcl k hlt
                have i1 := idx hlt hnS hS
                have e1 : (k : Int) * (S : Int) = ((k * S : Nat) : Int) := by simp
                have HB : Hid (cnt (fb zs S t) (k + 1) = cnt (fb zs S t) k + if fb zs S t k = true then 1 else 0) := rfl
                have HF : Hid (cnt (fa zs S t) (k + 1) = cnt (fa zs S t) k + if fa zs S t k = true then 1 else 0) := rfl
                generalize k * S = p1 at *
                by_cases hv : tm zs S k < t
                · have gb : Hid (fb zs S t k = true) := show fb zs S t k = true by simpa [fb] using hv
                  have ga : Hid (fa zs S t k = true) := show fa zs S t k = true by simp [fa]; omega
                  go_wp2_with fail
                  go_round
                  case rel => exact ⟨k + 1, by omega, by go_num, by rw [HB.out, gb.out]; go_num, by rw [HF.out, ga.out]; go_num⟩
                  case measure => simp [intOf]; omega
                · by_cases hv2 : tm zs S k ≤ t
                  · have gb : Hid (fb zs S t k = false) := show fb zs S t k = false by simpa [fb] using hv
                    have ga : Hid (fa zs S t k = true) := show fa zs S t k = true by simpa [fa] using hv2
                    go_wp2_with fail
                    go_round
                    case rel => exact ⟨k + 1, by omega, by go_num, by rw [HB.out, gb.out]; go_num, by rw [HF.out, ga.out]; go_num⟩
                    case measure => simp [intOf]; omega
                  · have gb : Hid (fb zs S t k = false) := show fb zs S t k = false by simpa [fb] using hv
                    have ga : Hid (fa zs S t k = false) := show fa zs S t k = false by simpa [fa] using hv2
                    go_wp2_with fail
                    go_round
                    case rel => exact ⟨k + 1, by omega, by go_num, by rw [HB.out, gb.out]; go_num, by rw [HF.out, ga.out]; go_num⟩
                    case measure => simp [intOf]; omega
              · have ek : k = n := by omega
                subst ek
                go_wp2_with fail
                refine (search13_any _ len cap3 k S t false zs _ hl hS HN Hrd.out).mono ?_
                rintro e w4 ⟨r4, rfl, hr4, hb4⟩
                have hd4 := Hrd.out.step hb4
                have b4 : ((r4 : Int) == (cnt (fb zs S t) k : Nat)) = true := by rw [res_cnt (fb_iff zs S t) HA.out hr4]; simp
                have H4 : Below w1.heap.size w1 w4 := H3.trans (hb4.mono H3.size)
                clear hb4 hr4 H3
                go_wp2_with fail
                refine (search13_any _ len cap3 k S t true zs _ hl hS HN hd4).mono ?_
                rintro e w5 ⟨r5, rfl, hr5, hb5⟩
                have b5 : ((r5 : Int) == (cnt (fa zs S t) k : Nat)) = true := by rw [res_cnt (fa_iff zs S t) HA.out hr5]; simp
                have H5 : Below w1.heap.size w1 w5 := H4.trans (hb5.mono H4.size)
                clear hb5 hr5 hd4 H4
                go_wp2_with fail
                go_ret
                exact ⟨rfl, H5⟩
  · go_enter Try.func3, Try.ntmps3
    go_wp2_with (go_at_call 10; refine (bytes10_no _ _ _ _ _ _ hl).mono ?_; rintro e w' ⟨rfl, rfl⟩)
    go_ret
    exact ⟨rfl, Below.refl _ _⟩

end Go.Proofs.Qxb6000480a.Srch
