import Derived.Test.Qxb6000480aSearch
import Derived.Deep.QuietTactic
import Derived.BigQuiet
namespace Go.Proofs.Qxb6000480a.Srch
open Go.ChangeShapes Go.WideShapes Go.ChangeAt Go.RowKit
set_option linter.unusedVariables false

/-- 'rows[i*stride] >= rows[(i-1)*stride]' for all i in 1 .. n-1. -/
def Asc (zs : List Int) (S n : Nat) : Prop := ∀ i, 1 ≤ i → i < n → tm zs S (i - 1) ≤ tm zs S i

set_option maxHeartbeats 400000 in
theorem sorted11 (b off len cap n S : Nat) (zs : List Int) (w : World) (hl : len ≤ 1048576) (hS : 1 ≤ S) (hn : n * S ≤ len) (hnl : n ≤ len) (hb : b < w.heap.size)
    (hc : ∀ i, i < len → w.cell? ⟨b, off + i, none⟩ = some (.int .i64 (zs.getD i 0))) :
    Calls Try.prog 11 #[.slice (some ⟨b, off, none⟩) len cap, .int .i64 S, .int .i64 n] w fun e w' =>
      ∃ sb : Bool, e = .returned (.bool sb) ∧ (sb = true → Asc zs S n) ∧ Below w.heap.size w w' := by
  go_enter Try.func11, Try.ntmps11
  go_wp2_with fail
  go_loopw [7] (fun x wr => ∃ k : Nat, x = .int .i64 k ∧ 1 ≤ k ∧ (k ≤ n ∨ k = 1) ∧ Asc zs S k ∧ Below w.heap.size w wr) (fun x _ => n - (intOf x).toNat)
  case atStart => exact ⟨1, rfl, Nat.le_refl _, .inr rfl, fun i h1 h2 => by omega, Below.refl _ _⟩
  case round =>
    obtain ⟨k, rfl, h1, h2, h3, hbel⟩ := hrel
    by_cases hlt : k < n
    · have i1 := idx hlt hn hS
      have i0 := idx (show k - 1 < n by omega) hn hS
      have c1 : wr.cell? ⟨b, off + k * S, none⟩ = some (.int .i64 (tm zs S k)) := (hbel.cell (by exact hb)).trans (hc _ i1)
      have c0 : wr.cell? ⟨b, off + (k - 1) * S, none⟩ = some (.int .i64 (tm zs S (k - 1))) := (hbel.cell (by exact hb)).trans (hc _ i0)
      have e1 : (k : Int) * (S : Int) = ((k * S : Nat) : Int) := by simp
      have e0 : ((k : Int) - 1) * (S : Int) = (((k - 1) * S : Nat) : Int) := by rw [Int.natCast_mul, Int.natCast_sub h1]; rfl
      generalize k * S = p1 at *
      generalize (k - 1) * S = p0 at *
      have H3 : Hid _ := h3
      clear h3
      by_cases hv : tm zs S k < tm zs S (k - 1)
      · go_wp2_with fail
        go_quiet (fail)
        go_wp2_with fail
        go_ret
        exact ⟨false, rfl, fun h => by simp at h, below_drewN hbel _⟩
      · go_wp2_with fail
        go_quiet (fail)
        go_wp2_with fail
        go_roundw
        case rel => exact ⟨k + 1, by go_num, by omega, .inl (by omega), fun i g1 g2 => by
          by_cases e : i = k
          · subst e; exact Int.not_lt.1 (by simpa using hv)
          · exact H3.out i g1 (by omega), below_drewN hbel _⟩
        case measure => simp [intOf]; omega
    · go_wp2_with fail
      go_ret
      exact ⟨true, rfl, fun _ i g1 g2 => h3 i g1 (by omega), hbel⟩

set_option maxHeartbeats 400000 in
/-- No row: whatever the slice. -/
theorem sorted11_zero (a : Option Addr) (len cap S : Nat) (w : World) :
    Calls Try.prog 11 #[.slice a len cap, .int .i64 S, .int .i64 0] w fun e w' => e = .returned (.bool true) ∧ w' = w := by
  go_enter Try.func11, Try.ntmps11
  go_wp2_with fail
  go_loop [7] (fun x => x = .int .i64 1) (fun _ => 0)
  case atStart => rfl
  case round =>
    subst hrel
    go_wp2_with fail
    go_ret
    exact ⟨rfl, rfl⟩

theorem Came.rd {w : World} {a : Option Addr} {len cap : Nat} {zs : List Int} (h : Came w a len cap zs) : len = 0 ∨ Rd w a len zs := by
  rcases h with ⟨rfl, rfl, rfl, rfl⟩ | ⟨x, rfl, h1, h2, h3, h4, h5⟩
  · exact .inl rfl
  · by_cases h0 : len = 0
    · exact .inl h0
    · right
      obtain ⟨b, off, spot⟩ := x
      have g0 := h4 0 (by omega)
      have hspot : spot = none := by simpa [Addr.add] using World.cell?_spot g0
      subst hspot
      have hb : b < w.heap.size := by
        by_cases hlt : b < w.heap.size
        · exact hlt
        · exfalso
          simp [World.cell?, Addr.add] at g0
          rw [Array.getElem?_eq_none (by omega)] at g0
          simp at g0
      exact .inr ⟨b, off, rfl, hb, fun i hi => by rw [← add_plain]; exact h4 i (by omega)⟩

theorem sorted11_any (a : Option Addr) (len cap n S : Nat) (zs : List Int) (w : World) (hl : len ≤ 1048576) (hS : 1 ≤ S) (Hn : Hid (n = len / S)) (hr : Came w a len cap zs) :
    Calls Try.prog 11 #[.slice a len cap, .int .i64 S, .int .i64 n] w fun e w' =>
      ∃ sb : Bool, e = .returned (.bool sb) ∧ (sb = true → Asc zs S n) ∧ Below w.heap.size w w' := by
  have z : n = 0 → Calls Try.prog 11 #[.slice a len cap, .int .i64 S, .int .i64 n] w fun e w' =>
      ∃ sb : Bool, e = .returned (.bool sb) ∧ (sb = true → Asc zs S n) ∧ Below w.heap.size w w' := by
    intro h
    subst h
    refine (sorted11_zero a len cap S w).mono ?_
    rintro e w1 ⟨rfl, rfl⟩
    exact ⟨true, rfl, fun _ i g1 g2 => by omega, Below.refl _ _⟩
  rcases hr.rd with h | ⟨rfl, rfl⟩ | ⟨b, off, rfl, h1, h2⟩
  · exact z (by rw [Hn.out, h]; simp)
  · exact z (by rw [Hn.out]; simp)
  · exact sorted11 b off len cap n S zs w hl hS (by rw [Hn.out]; exact Nat.div_mul_le_self _ _) (by rw [Hn.out]; exact Nat.div_le_self _ _) h1 h2

end Go.Proofs.Qxb6000480a.Srch
