import Derived.Test.Qxb6000480aCopy
namespace Go.Proofs.Qxb6000480a.Srch
open Go.ChangeShapes Go.WideShapes Go.ChangeAt Go.RowKit
set_option linter.unusedVariables false

/-- 'mt < t || after && mt == t' -/
def Bef (after : Bool) (t v : Int) : Prop := v < t ∨ (after = true ∧ v = t)
/-- The i-th row's time. -/
def tm (zs : List Int) (s i : Nat) : Int := zs.getD (i * s) 0
/-- What the search finds, over whatever rows. -/
def Res (zs : List Int) (s n : Nat) (t : Int) (after : Bool) (r : Nat) : Prop :=
  r ≤ n ∧ (r = 0 ∨ Bef after t (tm zs s (r - 1))) ∧ (r = n ∨ ¬ Bef after t (tm zs s r))

theorem idx {i n s len : Nat} (hi : i < n) (hn : n * s ≤ len) (hs : 1 ≤ s) : i * s < len := by
  have : (i + 1) * s ≤ n * s := Nat.mul_le_mul_right _ hi
  rw [Nat.succ_mul] at this
  omega

theorem time_at (b off len cap n S i : Nat) (zs : List Int) (w : World) (hl : len ≤ 1048576) (hS : 1 ≤ S) (hn : n * S ≤ len) (hi : i < n) (hb : b < w.heap.size)
    (hc : ∀ i, i < len → w.cell? ⟨b, off + i, none⟩ = some (.int .i64 (zs.getD i 0))) :
    Calls Try.prog 29 #[.agg #[.slice (some ⟨b, off, none⟩) len cap, .int .i64 S], .int .i64 i] w fun e w' => e = .returned (.int .i64 (tm zs S i)) ∧ Below w.heap.size w w' := by
  have h := idx hi hn hS
  have h' : ((i * S : Nat) : Int) < len := by omega
  rw [Int.natCast_mul] at h'
  have g0 : (0 : Int) ≤ (i : Int) * (S : Int) := by rw [← Int.natCast_mul]; omega
  have r := time29 b off len cap S i zs w hl g0 h' hb hc
  rw [← Int.natCast_mul, Int.toNat_natCast] at r
  exact r

theorem len_at (a : Option Addr) (len cap n S : Nat) (w : World) (hl : len ≤ 1048576) (hS : 1 ≤ S) (hn : n = len / S) :
    Calls Try.prog 28 #[.agg #[.slice a len cap, .int .i64 S]] w fun e w' => e = .returned (.int .i64 n) ∧ Below w.heap.size w w' := by
  have r := len28 a len cap S w hl (by omega)
  rw [← Int.natCast_ediv, ← hn] at r
  exact r

/-- The world while the search runs: its box lies at the old heap's end; the old blocks are as they were. -/
structure St (w : World) (b off len cap S : Nat) (wr : World) : Prop where
  bel : Below w.heap.size w wr
  c0 : wr.cell? ⟨w.heap.size, 0, none⟩ = some (.slice (some ⟨b, off, none⟩) len cap)
  c1 : wr.cell? ⟨w.heap.size, 1, none⟩ = some (.int .i64 S)
  sz : w.heap.size < wr.heap.size

theorem St.start (w : World) (b off len cap S : Nat) : St w b off len cap S (w.alloc (.cells #[.slice (some ⟨b, off, none⟩) len cap, .int .i64 S] 35)) :=
  ⟨(Below.refl _ _).alloc (Nat.le_refl _) _, by simp, by simp, by simp⟩

theorem St.step {w : World} {b off len cap S : Nat} {wr wx : World} (h : St w b off len cap S wr) (hb : Below wr.heap.size wr wx) : St w b off len cap S wx :=
  ⟨h.bel.trans (hb.mono (Nat.le_of_lt h.sz)), (hb.cell (by exact h.sz)).trans h.c0, (hb.cell (by exact h.sz)).trans h.c1, Nat.lt_of_lt_of_le h.sz hb.size⟩

theorem St.cells {w : World} {b off len cap S : Nat} {wr : World} (h : St w b off len cap S wr) {zs : List Int} (hb : b < w.heap.size)
    (hc : ∀ i, i < len → w.cell? ⟨b, off + i, none⟩ = some (.int .i64 (zs.getD i 0))) : ∀ i, i < len → wr.cell? ⟨b, off + i, none⟩ = some (.int .i64 (zs.getD i 0)) :=
  fun i hi => (h.bel.cell (by exact hb)).trans (hc i hi)

set_option maxHeartbeats 400000 in
theorem search24_false (b off len cap n S : Nat) (t : Int) (zs : List Int) (w : World) (hl : len ≤ 1048576) (hS : 1 ≤ S) (Hn : Hid (n = len / S)) (hn : n * S ≤ len) (hb : b < w.heap.size)
    (hc : ∀ i, i < len → w.cell? ⟨b, off + i, none⟩ = some (.int .i64 (zs.getD i 0))) :
    Calls Try.prog 24 #[.agg #[.slice (some ⟨b, off, none⟩) len cap, .int .i64 S], .int .i64 t, .bool false] w fun e w' =>
      ∃ r : Nat, e = .returned (.int .i64 r) ∧ Res zs S n t false r ∧ Below w.heap.size w w' := by
  have hnl : n ≤ len := by have := Nat.div_le_self len S; have := Hn.out; omega
  go_enter Try.func24, Try.ntmps24
  go_wp2_with fail
  refine (len_at _ len cap n S _ hl hS Hn.out).mono ?_
  rintro e w1 ⟨rfl, hb1⟩
  have hst := (St.start w b off len cap S).step hb1
  clear hb1
  go_wp2_with fail
  go_loopw [8, 9] (fun x y wr => ∃ lo hi : Nat, x = .int .i64 lo ∧ y = .int .i64 hi ∧ lo ≤ hi ∧ hi ≤ n ∧ (lo = 0 ∨ Bef false t (tm zs S (lo - 1))) ∧ (hi = n ∨ ¬ Bef false t (tm zs S hi)) ∧ St w b off len cap S wr)
    (fun x y _ => (intOf y).toNat - (intOf x).toNat)
  case atStart => exact ⟨0, n, rfl, rfl, Nat.zero_le _, Nat.le_refl _, .inl rfl, .inl rfl, hst⟩
  case round =>
    clear hst
    obtain ⟨lo, hi, rfl, rfl, h1, h2, h3, h4, hst⟩ := hrel
    have H3 : Hid _ := h3
    have H4 : Hid _ := h4
    clear h3 h4
    by_cases hlt : lo < hi
    · have hx0 := hst.c0
      have hx1 := hst.c1
      obtain ⟨m, hm⟩ : ∃ m : Nat, (m : Int) = ((lo : Int) + hi) / 2 := ⟨(lo + hi) / 2, by omega⟩
      have hm1 : lo ≤ m := by omega
      have hm2 : m < hi := by omega
      have HM : Hid _ := hm
      clear hm
      go_wp2_with fail
      rw [← HM.out]
      refine (time_at b off len cap n S m zs _ hl hS hn (by omega) (Nat.lt_trans hb hst.sz) (hst.cells hb hc)).mono ?_
      rintro e w2 ⟨rfl, hb2⟩
      have hst2 := hst.step hb2
      clear hb2 hst hx0 hx1
      by_cases hv : tm zs S m < t
      · go_wp2_with fail
        go_roundw
        case rel => exact ⟨m + 1, hi, by go_num, rfl, by omega, h2, .inr (.inl (by simpa using hv)), H4.out, hst2⟩
        case measure => simp [intOf]; omega
      · go_wp2_with fail
        go_roundw
        case rel => exact ⟨lo, m, rfl, rfl, hm1, by omega, H3.out, .inr (fun h => h.elim (Int.not_lt.2 hv) (fun h => absurd h.1 (by simp))), hst2⟩
        case measure => simp [intOf]; omega
    · have : lo = hi := by omega
      subst this
      go_wp2_with fail
      go_ret
      exact ⟨lo, rfl, ⟨h2, H3.out, H4.out⟩, hst.bel⟩

set_option maxHeartbeats 400000 in
theorem search24_true (b off len cap n S : Nat) (t : Int) (zs : List Int) (w : World) (hl : len ≤ 1048576) (hS : 1 ≤ S) (Hn : Hid (n = len / S)) (hn : n * S ≤ len) (hb : b < w.heap.size)
    (hc : ∀ i, i < len → w.cell? ⟨b, off + i, none⟩ = some (.int .i64 (zs.getD i 0))) :
    Calls Try.prog 24 #[.agg #[.slice (some ⟨b, off, none⟩) len cap, .int .i64 S], .int .i64 t, .bool true] w fun e w' =>
      ∃ r : Nat, e = .returned (.int .i64 r) ∧ Res zs S n t true r ∧ Below w.heap.size w w' := by
  have hnl : n ≤ len := by have := Nat.div_le_self len S; have := Hn.out; omega
  by_cases hn0 : n = 0
  · have hz : ((n : Int) == 0) = true := by simpa using hn0
    have Hn0 : Hid _ := hn0
    clear hn0
    go_enter Try.func24, Try.ntmps24
    go_wp2_with fail
    refine (len_at _ len cap n S _ hl hS Hn.out).mono ?_
    rintro e w1 ⟨rfl, hb1⟩
    have hst := (St.start w b off len cap S).step hb1
    clear hb1
    go_wp2_with fail
    go_ret
    exact ⟨n, rfl, ⟨Nat.le_refl _, .inl Hn0.out, .inl rfl⟩, hst.bel⟩
  have hz : ((n : Int) == 0) = false := by simpa using hn0
  by_cases hv : tm zs S (n - 1) ≤ t
  · go_enter Try.func24, Try.ntmps24
    go_wp2_with fail
    refine (len_at _ len cap n S _ hl hS Hn.out).mono ?_
    rintro e w1 ⟨rfl, hb1⟩
    have hst := (St.start w b off len cap S).step hb1
    clear hb1
    have hx0 := hst.c0
    have hx1 := hst.c1
    go_wp2_with fail
    rw [show ((n : Int) - 1) = ((n - 1 : Nat) : Int) by omega]
    refine (time_at b off len cap n S (n - 1) zs _ hl hS hn (by omega) (Nat.lt_trans hb hst.sz) (hst.cells hb hc)).mono ?_
    rintro e w2 ⟨rfl, hb2⟩
    have hst2 := hst.step hb2
    clear hb2 hst hx0 hx1
    go_wp2_with fail
    go_ret
    refine ⟨n, rfl, ⟨Nat.le_refl _, .inr ?_, .inl rfl⟩, hst2.bel⟩
    rcases Int.lt_or_eq_of_le hv with h | h
    · exact .inl h
    · exact .inr ⟨rfl, h⟩
  · go_enter Try.func24, Try.ntmps24
    go_wp2_with fail
    refine (len_at _ len cap n S _ hl hS Hn.out).mono ?_
    rintro e w1 ⟨rfl, hb1⟩
    have hst := (St.start w b off len cap S).step hb1
    clear hb1
    have hx0 := hst.c0
    have hx1 := hst.c1
    go_wp2_with fail
    rw [show ((n : Int) - 1) = ((n - 1 : Nat) : Int) by omega]
    refine (time_at b off len cap n S (n - 1) zs _ hl hS hn (by omega) (Nat.lt_trans hb hst.sz) (hst.cells hb hc)).mono ?_
    rintro e w2 ⟨rfl, hb2⟩
    have hst2 := hst.step hb2
    clear hb2 hst hx0 hx1
    go_wp2_with fail
    go_loopw [8, 9] (fun x y wr => ∃ lo hi : Nat, x = .int .i64 lo ∧ y = .int .i64 hi ∧ lo ≤ hi ∧ hi ≤ n ∧ (lo = 0 ∨ Bef true t (tm zs S (lo - 1))) ∧ (hi = n ∨ ¬ Bef true t (tm zs S hi)) ∧ St w b off len cap S wr)
      (fun x y _ => (intOf y).toNat - (intOf x).toNat)
    case atStart => exact ⟨0, n, rfl, rfl, Nat.zero_le _, Nat.le_refl _, .inl rfl, .inl rfl, hst2⟩
    case round =>
      clear hst2
      obtain ⟨lo, hi, rfl, rfl, h1, h2, h3, h4, hst⟩ := hrel
      have H3 : Hid _ := h3
      have H4 : Hid _ := h4
      clear h3 h4
      by_cases hlt : lo < hi
      · have hx0 := hst.c0
        have hx1 := hst.c1
        obtain ⟨m, hm⟩ : ∃ m : Nat, (m : Int) = ((lo : Int) + hi) / 2 := ⟨(lo + hi) / 2, by omega⟩
        have hm1 : lo ≤ m := by omega
        have hm2 : m < hi := by omega
        have HM : Hid _ := hm
        clear hm
        go_wp2_with fail
        rw [← HM.out]
        refine (time_at b off len cap n S m zs _ hl hS hn (by omega) (Nat.lt_trans hb hst.sz) (hst.cells hb hc)).mono ?_
        rintro e w3 ⟨rfl, hb3⟩
        have hst3 := hst.step hb3
        clear hb3 hst hx0 hx1
        by_cases hv1 : tm zs S m < t
        · go_wp2_with fail
          go_roundw
          case rel => exact ⟨m + 1, hi, by go_num, rfl, by omega, h2, .inr (.inl (by simpa using hv1)), H4.out, hst3⟩
          case measure => simp [intOf]; omega
        · by_cases hv2 : tm zs S m = t
          · have HV : Hid _ := hv2
            have hv3 : (tm zs S m == t) = true := by simpa using hv2
            clear hv2
            go_wp2_with fail
            go_roundw
            case rel => exact ⟨m + 1, hi, by go_num, rfl, by omega, h2, .inr (.inr ⟨rfl, by simpa using HV.out⟩), H4.out, hst3⟩
            case measure => simp [intOf]; omega
          · have hv3 : (tm zs S m == t) = false := by simpa using hv2
            go_wp2_with fail
            go_roundw
            case rel => exact ⟨lo, m, rfl, rfl, hm1, by omega, H3.out, .inr (fun h => h.elim (Int.not_lt.2 hv1) (fun h => hv2 h.2)), hst3⟩
            case measure => simp [intOf]; omega
      · have : lo = hi := by omega
        subst this
        go_wp2_with fail
        go_ret
        exact ⟨lo, rfl, ⟨h2, H3.out, H4.out⟩, hst.bel⟩

theorem search24 (b off len cap n S : Nat) (t : Int) (after : Bool) (zs : List Int) (w : World) (hl : len ≤ 1048576) (hS : 1 ≤ S) (Hn : Hid (n = len / S)) (hn : n * S ≤ len) (hb : b < w.heap.size)
    (hc : ∀ i, i < len → w.cell? ⟨b, off + i, none⟩ = some (.int .i64 (zs.getD i 0))) :
    Calls Try.prog 24 #[.agg #[.slice (some ⟨b, off, none⟩) len cap, .int .i64 S], .int .i64 t, .bool after] w fun e w' =>
      ∃ r : Nat, e = .returned (.int .i64 r) ∧ Res zs S n t after r ∧ Below w.heap.size w w' := by
  cases after
  · exact search24_false b off len cap n S t zs w hl hS Hn hn hb hc
  · exact search24_true b off len cap n S t zs w hl hS Hn hn hb hc

set_option maxHeartbeats 400000 in
theorem search24_nil (cap S : Nat) (t : Int) (after : Bool) (w : World) (hS : 1 ≤ S) :
    Calls Try.prog 24 #[.agg #[.slice none 0 cap, .int .i64 S], .int .i64 t, .bool after] w fun e w' => e = .returned (.int .i64 0) ∧ Below w.heap.size w w' := by
  cases after
  all_goals
    go_enter Try.func24, Try.ntmps24
    go_wp2_with fail
    refine (len_at none 0 cap 0 S _ (by omega) hS (by simp)).mono ?_
    rintro e w1 ⟨rfl, hb1⟩
    have hb2 : Below w.heap.size w w1 := ((Below.refl _ _).alloc (Nat.le_refl _) _).trans (hb1.mono (by simp))
    clear hb1
    go_wp2_with fail
  · go_loop [8, 9] (fun x y => x = .int .i64 0 ∧ y = .int .i64 0) (fun x y => 0)
    case atStart => exact ⟨rfl, rfl⟩
    case round =>
      obtain ⟨rfl, rfl⟩ := hrel
      go_wp2_with fail
      go_ret
      exact ⟨rfl, hb2⟩
  · go_ret
    exact ⟨rfl, hb2⟩

set_option maxHeartbeats 400000 in
/-- 'ZZSearch' over rows of the call's own. -/
theorem search13 (b off len cap n S : Nat) (t : Int) (after : Bool) (zs : List Int) (w : World) (hl : len ≤ 1048576) (hS : 1 ≤ S) (Hn : Hid (n = len / S)) (hn : n * S ≤ len) (hb : b < w.heap.size)
    (hc : ∀ i, i < len → w.cell? ⟨b, off + i, none⟩ = some (.int .i64 (zs.getD i 0))) :
    Calls Try.prog 13 #[.slice (some ⟨b, off, none⟩) len cap, .int .i64 S, .int .i64 t, .bool after] w fun e w' =>
      ∃ r : Nat, e = .returned (.int .i64 r) ∧ Res zs S n t after r ∧ Below w.heap.size w w' := by
  go_enter Try.func13, Try.ntmps13
  go_wp2_with fail
  refine (search24 b off len cap n S t after zs _ hl hS Hn hn hb hc).mono ?_
  rintro e w1 ⟨r, rfl, hr, hb1⟩
  go_wp2_with fail
  go_ret
  exact ⟨r, rfl, hr, hb1⟩

set_option maxHeartbeats 400000 in
theorem search13_nil (cap S : Nat) (t : Int) (after : Bool) (w : World) (hS : 1 ≤ S) :
    Calls Try.prog 13 #[.slice none 0 cap, .int .i64 S, .int .i64 t, .bool after] w fun e w' => e = .returned (.int .i64 0) ∧ Below w.heap.size w w' := by
  go_enter Try.func13, Try.ntmps13
  go_wp2_with fail
  refine (search24_nil cap S t after _ hS).mono ?_
  rintro e w1 ⟨rfl, hb1⟩
  go_wp2_with fail
  go_ret
  exact ⟨rfl, hb1⟩

/-- A slice of len numbers that can be read: nil and empty, or a row of the heap's. -/
def Rd (w : World) (a : Option Addr) (len : Nat) (zs : List Int) : Prop :=
  (a = none ∧ len = 0) ∨ ∃ b off, a = some ⟨b, off, none⟩ ∧ b < w.heap.size ∧ ∀ i, i < len → w.cell? ⟨b, off + i, none⟩ = some (.int .i64 (zs.getD i 0))

theorem Rd.step {w wx : World} {a : Option Addr} {len : Nat} {zs : List Int} (h : Rd w a len zs) (hb : Below w.heap.size w wx) : Rd wx a len zs := by
  rcases h with h | ⟨b, off, h, h1, h2⟩
  · exact .inl h
  · exact .inr ⟨b, off, h, Nat.lt_of_lt_of_le h1 hb.size, fun i hi => (hb.cell (by exact h1)).trans (h2 i hi)⟩

theorem search13_any (a : Option Addr) (len cap n S : Nat) (t : Int) (after : Bool) (zs : List Int) (w : World) (hl : len ≤ 1048576) (hS : 1 ≤ S) (Hn : Hid (n = len / S)) (hr : Rd w a len zs) :
    Calls Try.prog 13 #[.slice a len cap, .int .i64 S, .int .i64 t, .bool after] w fun e w' =>
      ∃ r : Nat, e = .returned (.int .i64 r) ∧ Res zs S n t after r ∧ Below w.heap.size w w' := by
  rcases hr with ⟨rfl, rfl⟩ | ⟨b, off, rfl, h1, h2⟩
  · refine (search13_nil cap S t after w hS).mono ?_
    rintro e w1 ⟨rfl, hb⟩
    have : n = 0 := by rw [Hn.out]; simp
    exact ⟨0, rfl, ⟨Nat.zero_le _, .inl rfl, .inl this.symm⟩, hb⟩
  · exact search13 b off len cap n S t after zs w hl hS Hn (by rw [Hn.out]; exact Nat.div_mul_le_self _ _) h1 h2

/-- What the law is told of a slice of integers that came in (as the shell says it). -/
def Came (w : World) (a : Option Addr) (len cap : Nat) (zs : List Int) : Prop :=
  (a = none ∧ len = 0 ∧ cap = 0 ∧ zs = []) ∨
  ∃ x, a = some x ∧ len ≤ cap ∧ cap ≤ maxLen ∧ zs.length = cap ∧ (∀ i, i < zs.length → w.cell? (x.add i) = some (.int .i64 (zs.getD i 0))) ∧ ∀ n ∈ zs, (Lit.int .i64 n).wf = true

set_option maxHeartbeats 400000 in
theorem copy_empty (x : Addr) (cap : Nat) (w : World) :
    Calls Try.prog 12 #[.slice (some x) 0 cap] w fun e w' => e = .returned (.slice (some ⟨w.heap.size, 0, none⟩) 0 0) ∧ w.heap.size < w'.heap.size ∧ Below w.heap.size w w' := by
  have hnil := fun (w : World) (a : Option Addr) (n c : Nat) => Lib.run_eql_slice_nil (P := Try.prog) w 22 2 a n c 0 0 Try.underlying22
  have hmk := fun (w : World) => run_make_row' (P := Try.prog) 22 2 (.int .i64 0) 8 Try.underlying22 info2 rfl .i64 .i64 0 (by omega) (by omega) w
  simp only [Int.natCast_zero] at hmk
  go_enter Try.func12, Try.ntmps12
  go_wp2
  go_loop [4] (fun i => i = .int .i64 0) (fun i => 0)
  case atStart => rfl
  case round =>
    subst hrel
    go_wp2
    go_ret
    exact ⟨rfl, by simp, (Below.refl _ _).alloc (Nat.le_refl _) _⟩

theorem copy_any (a : Option Addr) (len cap : Nat) (zs : List Int) (w : World) (hl : len ≤ 1048576) (hr : Came w a len cap zs) :
    Calls Try.prog 12 #[.slice a len cap] w fun e w' => ∃ a' cap', e = .returned (.slice a' len cap') ∧ Rd w' a' len zs ∧ Below w.heap.size w w' := by
  rcases hr with ⟨rfl, rfl, rfl, rfl⟩ | ⟨x, rfl, h1, h2, h3, h4, h5⟩
  · refine (copy_nil w).mono ?_
    rintro e w1 ⟨rfl, rfl⟩
    exact ⟨none, 0, rfl, .inl ⟨rfl, rfl⟩, Below.refl _ _⟩
  · by_cases h0 : len = 0
    · subst h0
      refine (copy_empty x cap w).mono ?_
      rintro e w1 ⟨rfl, hs, hb⟩
      exact ⟨_, 0, rfl, .inr ⟨w.heap.size, 0, rfl, hs, fun i hi => absurd hi (by omega)⟩, hb⟩
    · obtain ⟨b, off, spot⟩ := x
      have g0 := h4 0 (by omega)
      have hspot : spot = none := by simpa [Addr.add] using World.cell?_spot g0
      subst hspot
      have hb : b < w.heap.size := by
        by_cases hlt : b < w.heap.size
        · exact hlt
        · exfalso
          simp [World.cell?, Addr.add] at g0
          rw [Array.getElem?_eq_none (by omega)] at g0
          simp at g0
      refine (copy_some b off len cap zs w hl hb (fun i hi => by rw [← add_plain]; exact h4 i (by omega))).mono ?_
      rintro e w1 ⟨rfl, hrow, hbel⟩
      refine ⟨_, len, rfl, .inr ⟨w.heap.size, 0, rfl, hrow.lt, fun i hi => ?_⟩, hbel⟩
      rw [Nat.zero_add]
      exact hrow.cell hi

end Go.Proofs.Qxb6000480a.Srch
