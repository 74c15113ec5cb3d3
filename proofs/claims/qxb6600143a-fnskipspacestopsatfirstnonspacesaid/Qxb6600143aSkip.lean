import Derived.Test.Qxb6600143aRows
import Derived.WalkKit
import Derived.WalkSpells
import Derived.WalkLawsBesides
import Derived.ProofKit
import Derived.OpenShut
import Derived.Below
import Derived.WalkSmall
import Derived.Deep.OwnRows
import Derived.Deep.Light
import Derived.Deep.LoopGhost
import Derived.Deep.QuietTactic
import Derived.BigQuiet
namespace Go.Proofs.Qxb6600143a.Skip
open Go.ChangeShapes Go.WideShapes Go.ChangeAt Go.RowKit
set_option linter.unusedVariables false

def ws (c : Int) : Bool := c == 32 || c == 9 || c == 10 || c == 13

theorem ws_cases (c : Int) : (c = 32 ∨ c = 9 ∨ c = 10 ∨ c = 13) ∧ ws c = true ∨ (¬ c = 32 ∧ ¬ c = 9 ∧ ¬ c = 10 ∧ ¬ c = 13) ∧ ws c = false := by
  by_cases h : c = 32 ∨ c = 9 ∨ c = 10 ∨ c = 13
  · left
    refine ⟨h, ?_⟩
    rcases h with rfl | rfl | rfl | rfl <;> rfl
  · right
    have h' : ¬ c = 32 ∧ ¬ c = 9 ∧ ¬ c = 10 ∧ ¬ c = 13 := by omega
    exact ⟨h', by simp [ws, h'.1, h'.2.1, h'.2.2.1, h'.2.2.2]⟩

theorem ret_bool {a b : Bool} (h : a = b) : Ending.returned (.bool a) = .returned (.bool b) := by rw [h]

set_option maxHeartbeats 400000 in
theorem isWS18 (c : Int) (w : World) : Calls Try.prog 18 #[.int .u8 c] w fun e w' => e = .returned (.bool (ws c)) ∧ w' = w := by
  go_enter Try.func18, Try.ntmps18
  go_wp2
  all_goals
    go_ret
    exact ⟨ret_bool (by simp [ws, *]), rfl⟩

/-- From p the run of white space ends at e. -/
structure Run (f : Nat → Int) (len p e : Nat) : Prop where
  le : p ≤ e
  top : e ≤ len
  all : ∀ i, p ≤ i → i < e → ws (f i) = true
  non : e < len → ws (f e) = false

set_option maxHeartbeats 400000 in
theorem skip29_end (a : Option Addr) (len cap : Nat) (p : Int) (B : Nat) (w : World) (hl : len ≤ 1048576) (hp : (len : Int) ≤ p)
    (c0 : w.cell? ⟨B, 0, none⟩ = some (.slice a len cap)) (c1 : w.cell? ⟨B, 1, none⟩ = some (.int .i64 p)) :
    Calls Try.prog 29 #[.pointer (some ⟨B, 0, none⟩)] w fun e w' => e = .returned (.tuple #[]) ∧ ∃ nq, w' = w.drewN nq := by
  go_enter Try.func29, Try.ntmps29
  go_wp2_with fail
  go_loopg [] 0 (fun k wr => wr = w)
  case atStart => rfl
  case round =>
    subst hrel
    go_wp2_with fail
    go_quiet (fail)
    go_wp2_with fail
    go_end0
    exact ⟨rfl, _, rfl⟩

set_option maxHeartbeats 1000000 in
theorem skip29 (b off len cap p : Nat) (f : Nat → Int) (B : Nat) (w : World) (hl : len ≤ 1048576) (hp : p < len) (hbB : b < B)
    (c0 : w.cell? ⟨B, 0, none⟩ = some (.slice (some ⟨b, off, none⟩) len cap)) (c1 : w.cell? ⟨B, 1, none⟩ = some (.int .i64 p)) (f1 : w.frozen? ⟨B, 1, none⟩ = false)
    (hc : ∀ i, i < len → w.cell? ⟨b, off + i, none⟩ = some (.int .u8 (f i))) :
    Calls Try.prog 29 #[.pointer (some ⟨B, 0, none⟩)] w fun e w' => e = .returned (.tuple #[]) ∧
      ∃ q : Nat, Run f len p q ∧ w'.cell? ⟨B, 1, none⟩ = some (.int .i64 q) ∧ Below B w w' := by
  go_enter Try.func29, Try.ntmps29
  go_wp2_with fail
  go_loopg [] (len - p) (fun k wr => ∃ q : Nat, q ≤ len ∧ Hid (k = len - q) ∧ p ≤ q ∧ Hid (∀ i, p ≤ i → i < q → ws (f i) = true) ∧ wr.cell? ⟨B, 0, none⟩ = some (.slice (some ⟨b, off, none⟩) len cap) ∧ wr.cell? ⟨B, 1, none⟩ = some (.int .i64 q) ∧ wr.frozen? ⟨B, 1, none⟩ = false ∧ Below B w wr)
  case atStart => exact ⟨p, by omega, rfl, Nat.le_refl _, fun i h1 h2 => by omega, c0, c1, f1, Below.refl _ _⟩
  case round =>
    obtain ⟨q, hq, HK, hpq, HW, d0, d1, e1, hbel⟩ := hrel
    by_cases hlt : q < len
    · have hcq : wr.cell? ⟨b, off + q, none⟩ = some (.int .u8 (f q)) := (hbel.cell (by exact hbB)).trans (hc q hlt)
      have HC : Hid _ := hc
      clear hc c0 c1 f1
      have hw := ws_cases (f q)
      have HF : Hid (ws (f q) = true → ∀ i, p ≤ i → i < q + 1 → ws (f i) = true) := fun h i h1 h2 => by
        by_cases e : i = q
        · rw [e]; exact h
        · exact HW.out i h1 (by omega)
      have HG : Hid (ws (f q) = false → Run f len p q) := fun h => ⟨hpq, hq, HW.out, fun _ => h⟩
      generalize f q = c at *
      rcases hw with ⟨hc, hw⟩ | ⟨⟨n1, n2, n3, n4⟩, hw⟩
      · have HF' : Hid _ := HF.out hw
        clear HG HF hw HW
        rcases hc with rfl | rfl | rfl | rfl
        all_goals
          go_wp2_with fail
          go_quiet (fail)
          go_wp2_with fail
          go_quiet (fail)
          go_wp2_with fail
          go_roundg (len - (q + 1))
          case measure => have := HK.out; omega
          case rel =>
            refine ⟨q + 1, by omega, rfl, by omega, HF', ?_, ?_, ?_, below_drewN (hbel.setCell (p := ⟨B, 1, none⟩) (Nat.le_refl _) _) _⟩
            · show (wr.setCell ⟨B, 1, none⟩ _).cell? ⟨B, 0, none⟩ = _
              rw [World.cell?_setCell_other _ _ _ _ (by simp)]
              exact d0
            · exact World.cell?_setCell_same' wr ⟨B, 1, none⟩ _ (by rw [d1]; rfl)
            · exact (World.frozen?_setCell _ _ _ _).trans e1
      · have HG' : Hid _ := HG.out hw
        clear HG HF hw HW
        have m1 : (c == 32) = false := by simpa using n1
        have m2 : (c == 9) = false := by simpa using n2
        have m3 : (c == 10) = false := by simpa using n3
        have m4 : (c == 13) = false := by simpa using n4
        clear n1 n2 n3 n4
        go_wp2_with fail
        go_quiet (fail)
        go_wp2_with fail
        go_quiet (fail)
        go_wp2_with fail
        refine bodyPost_ret (results_none rfl _ _ _) rfl ?_
        exact ⟨rfl, q, HG'.out, d1, below_drewN hbel _⟩
    · go_wp2_with fail
      go_quiet (fail)
      go_wp2_with fail
      go_end0
      exact ⟨rfl, q, ⟨hpq, hq, HW.out, fun h => absurd h hlt⟩, d1, below_drewN hbel _⟩

set_option maxHeartbeats 400000 in
theorem zz_end (a : Option Addr) (len cap : Nat) (p : Int) (w : World) (hl : len ≤ 1048576) (hp : (len : Int) ≤ p) :
    Calls Try.prog 17 #[.slice a len cap, .int .i64 p] w fun e w' => e = .returned (.int .i64 p) ∧ Below w.heap.size w w' := by
  have HB : Hid (∀ nq, Below w.heap.size w ((w.alloc (.cells #[.slice a len cap, .int .i64 p] 43)).drewN nq)) := fun nq => below_drewN ((Below.refl _ _).alloc (Nat.le_refl _) _) nq
  go_enter Try.func17, Try.ntmps17
  go_wp2_with fail
  refine (skip29_end a len cap p w.heap.size _ hl hp (by simp) (by simp)).mono ?_
  rintro e w1 ⟨rfl, nq, rfl⟩
  go_wp2_with fail
  go_ret
  exact ⟨rfl, HB.out _⟩

set_option maxHeartbeats 400000 in
theorem zz_skip (b off len cap p : Nat) (f : Nat → Int) (w : World) (hl : len ≤ 1048576) (hp : p < len) (hbw : b < w.heap.size)
    (hc : ∀ i, i < len → w.cell? ⟨b, off + i, none⟩ = some (.int .u8 (f i))) :
    Calls Try.prog 17 #[.slice (some ⟨b, off, none⟩) len cap, .int .i64 p] w fun e w' => ∃ q : Nat, e = .returned (.int .i64 q) ∧ Run f len p q ∧ Below w.heap.size w w' := by
  have hb0 : Below w.heap.size w (w.alloc (.cells #[.slice (some ⟨b, off, none⟩) len cap, .int .i64 p] 43)) := (Below.refl _ _).alloc (Nat.le_refl _) _
  have HC : Hid (∀ i, i < len → (w.alloc (.cells #[.slice (some ⟨b, off, none⟩) len cap, .int .i64 p] 43)).cell? ⟨b, off + i, none⟩ = some (.int .u8 (f i))) := fun i hi => (hb0.cell (by exact hbw)).trans (hc i hi)
  have HB : Hid (Below w.heap.size w (w.alloc (.cells #[.slice (some ⟨b, off, none⟩) len cap, .int .i64 p] 43))) := hb0
  clear hc hb0
  go_enter Try.func17, Try.ntmps17
  go_wp2_with fail
  refine (skip29 b off len cap p f w.heap.size _ hl hp hbw (by simp) (by simp) (by simp) HC.out).mono ?_
  rintro e w1 ⟨rfl, q, hrun, hcell, hbel⟩
  have HF : Hid (Below w.heap.size w w1) := HB.out.trans hbel
  have HR : Hid (Run f len p q) := hrun
  clear hbel HC HB hrun
  go_wp2_with fail
  go_ret
  exact ⟨q, rfl, HR.out, HF.out⟩

end Go.Proofs.Qxb6600143a.Skip
