import Derived.Test.Qxb6600143aRows
import Derived.WalkKit
import Derived.WalkSpells
import Derived.WalkLawsBesides
import Derived.ProofKit
import Derived.OpenShut
import Derived.Below
import Derived.Deep.OwnRows
namespace Go.Proofs.Qxb6600143a.Cln
open Go.ChangeShapes Go.WideShapes Go.ChangeAt Go.RowKit
set_option linter.unusedVariables false

theorem info5 : (Try.prog.info? 5).map (fun i => (i.zero, i.size, i.bytes)) = some (some (.int .u8 0), 1, 1) := by kernel_rfl

/-- What the law is told of a slice of bytes that came in (as the shell says it). -/
def Came (w : World) (a : Option Addr) (len cap : Nat) (zs : List Int) : Prop :=
  (a = none ∧ len = 0 ∧ cap = 0 ∧ zs = []) ∨
  ∃ x, a = some x ∧ len ≤ cap ∧ cap ≤ maxLen ∧ zs.length = cap ∧ (∀ i, i < zs.length → w.cell? (x.add i) = some (.int .u8 (zs.getD i 0))) ∧ ∀ n ∈ zs, (Lit.int .u8 n).wf = true

theorem Came.top {w : World} {a : Option Addr} {len cap : Nat} {zs : List Int} (h : Came w a len cap zs) : len ≤ maxLen := by
  rcases h with ⟨_, rfl, _, _⟩ | ⟨x, _, h1, h2, _⟩
  · exact Nat.zero_le _
  · omega

theorem Came.bnd {w : World} {a : Option Addr} {len cap : Nat} {zs : List Int} (h : Came w a len cap zs) (i : Nat) : 0 ≤ zs.getD i 0 ∧ zs.getD i 0 ≤ 255 := by
  rcases h with ⟨_, _, _, rfl⟩ | ⟨x, _, _, _, _, _, hw⟩
  · simp
  · by_cases hi : i < zs.length
    · have := hw zs[i] (List.getElem_mem hi)
      have e : zs.getD i 0 = zs[i] := by simp [List.getD, hi]
      rw [e]
      exact bounds_u8 this
    · have e : zs.getD i 0 = 0 := by simp [List.getD, List.getElem?_eq_none (by omega : zs.length ≤ i)]
      rw [e]
      omega

/-- A clone: nil and empty, or a row of the call's own. -/
def Rd (w : World) (a : Option Addr) (len cap : Nat) (f : Nat → Int) : Prop :=
  (a = none ∧ len = 0 ∧ cap = 0) ∨ ∃ b off, a = some ⟨b, off, none⟩ ∧ cap = len ∧ b < w.heap.size ∧ ∀ i, i < len → w.cell? ⟨b, off + i, none⟩ = some (.int .u8 (f i))

theorem Rd.step {w wx : World} {a : Option Addr} {len cap : Nat} {f : Nat → Int} (h : Rd w a len cap f) (hb : Below w.heap.size w wx) : Rd wx a len cap f := by
  rcases h with h | ⟨b, off, h, h0, h1, h2⟩
  · exact .inl h
  · exact .inr ⟨b, off, h, h0, Nat.lt_of_lt_of_le h1 hb.size, fun i hi => (hb.cell (by exact h1)).trans (h2 i hi)⟩

theorem Rd.row {w : World} {a : Option Addr} {len cap : Nat} {f : Nat → Int} (h : Rd w a len cap f) (h0 : 0 < len) :
    ∃ b off, a = some ⟨b, off, none⟩ ∧ cap = len ∧ b < w.heap.size ∧ ∀ i, i < len → w.cell? ⟨b, off + i, none⟩ = some (.int .u8 (f i)) := by
  rcases h with ⟨_, h, _⟩ | h
  · omega
  · exact h

set_option maxHeartbeats 400000 in
theorem clone_nil (w : World) :
    Calls Try.prog 16 #[.slice none 0 0] w fun e w' => e = .returned (.slice none 0 0) ∧ w' = w := by
  have hnil := fun (w : World) (a : Option Addr) (n c : Nat) => Lib.run_eql_slice_nil (P := Try.prog) w 25 5 a n c 0 0 Try.underlying25
  go_enter Try.func16, Try.ntmps16
  go_wp2
  go_ret
  exact ⟨rfl, rfl⟩

set_option maxHeartbeats 400000 in
theorem clone_some (b off len cap : Nat) (zs : List Int) (w : World) (hl : len ≤ 1048576) (hb : b < w.heap.size)
    (hc : ∀ i, i < len → w.cell? ⟨b, off + i, none⟩ = some (.int .u8 (zs.getD i 0))) :
    Calls Try.prog 16 #[.slice (some ⟨b, off, none⟩) len cap] w fun e w' => e = .returned (.slice (some ⟨w.heap.size, 0, none⟩) len len) ∧
      w'.rowIs w.heap.size 5 len (fun i => .int .u8 (zs.getD i 0)) ∧ Below w.heap.size w w' := by
  have hnil := fun (w : World) (a : Option Addr) (n c : Nat) => Lib.run_eql_slice_nil (P := Try.prog) w 25 5 a n c 0 0 Try.underlying25
  have hmk := fun (w : World) => run_make_row' (P := Try.prog) 25 5 (.int .u8 0) 1 Try.underlying25 info5 rfl .i64 .i64 len (by omega) (by omega) w
  go_enter Try.func16, Try.ntmps16
  go_wp2
  go_loopw [4] (fun i wr => ∃ k : Nat, k ≤ len ∧ i = .int .i64 k ∧ wr.rowIs w.heap.size 5 len (fun j => .int .u8 (if j < k then zs.getD j 0 else 0)) ∧ Below w.heap.size w wr)
    (fun i _ => len - (intOf i).toNat)
  case atStart => exact ⟨0, Nat.zero_le _, rfl, (World.rowIs_made _ _ _ _).congr (fun i _ => by simp), (Below.refl _ _).alloc (Nat.le_refl _) _⟩
  case round =>
    obtain ⟨k, hk, rfl, hrow, hbel⟩ := hrel
    by_cases hlt : k < len
    · have hcx : wr.cell? ⟨b, off + k, none⟩ = some (.int .u8 (zs.getD k 0)) := (hbel.cell (by exact hb)).trans (hc k hlt)
      have hcy := hrow.cell hlt
      have hfy := hrow.frozen k
      go_wp2
      go_roundw
      case rel =>
        exact ⟨k + 1, by omega, by go_num, (hrow.set k _).congr (fun i hi => by
          by_cases e : i = k
          · subst e; simp
          · have e1 : (i < k + 1) = (i < k) := by simp; omega
            simp [e, e1]), hbel.setCell (Nat.le_refl _) _⟩
      case measure => simp [intOf]; omega
    · have : k = len := by omega
      subst this
      go_wp2
      go_ret
      exact ⟨rfl, hrow.congr (fun i hi => by simp [hi]), hbel⟩

set_option maxHeartbeats 400000 in
theorem clone_empty (x : Addr) (cap : Nat) (w : World) :
    Calls Try.prog 16 #[.slice (some x) 0 cap] w fun e w' => e = .returned (.slice (some ⟨w.heap.size, 0, none⟩) 0 0) ∧ w.heap.size < w'.heap.size ∧ Below w.heap.size w w' := by
  have hnil := fun (w : World) (a : Option Addr) (n c : Nat) => Lib.run_eql_slice_nil (P := Try.prog) w 25 5 a n c 0 0 Try.underlying25
  have hmk := fun (w : World) => run_make_row' (P := Try.prog) 25 5 (.int .u8 0) 1 Try.underlying25 info5 rfl .i64 .i64 0 (by omega) (by omega) w
  simp only [Int.natCast_zero] at hmk
  go_enter Try.func16, Try.ntmps16
  go_wp2
  go_loop [4] (fun i => i = .int .i64 0) (fun i => 0)
  case atStart => rfl
  case round =>
    subst hrel
    go_wp2
    go_ret
    exact ⟨rfl, by simp, (Below.refl _ _).alloc (Nat.le_refl _) _⟩

theorem clone_any (a : Option Addr) (len cap : Nat) (zs : List Int) (w : World) (hl : len ≤ 1048576) (hr : Came w a len cap zs) :
    Calls Try.prog 16 #[.slice a len cap] w fun e w' => ∃ a' cap', e = .returned (.slice a' len cap') ∧ Rd w' a' len cap' (fun i => zs.getD i 0) ∧ Below w.heap.size w w' := by
  rcases hr with ⟨rfl, rfl, rfl, rfl⟩ | ⟨x, rfl, h1, h2, h3, h4, h5⟩
  · refine (clone_nil w).mono ?_
    rintro e w1 ⟨rfl, rfl⟩
    exact ⟨none, 0, rfl, .inl ⟨rfl, rfl, rfl⟩, Below.refl _ _⟩
  · by_cases h0 : len = 0
    · subst h0
      refine (clone_empty x cap w).mono ?_
      rintro e w1 ⟨rfl, hs, hb⟩
      exact ⟨_, 0, rfl, .inr ⟨w.heap.size, 0, rfl, rfl, hs, fun i hi => absurd hi (by omega)⟩, hb⟩
    · obtain ⟨b, off, spot⟩ := x
      have g0 := h4 0 (by omega)
      have hspot : spot = none := by simpa [Addr.add] using World.cell?_spot g0
      subst hspot
      have hb : b < w.heap.size := by
        by_cases hlt : b < w.heap.size
        · exact hlt
        · exfalso
          simp [World.cell?, Addr.add] at g0
          rw [Array.getElem?_eq_none (by omega)] at g0
          simp at g0
      refine (clone_some b off len cap zs w hl hb (fun i hi => by rw [← add_plain]; exact h4 i (by omega))).mono ?_
      rintro e w1 ⟨rfl, hrow, hbel⟩
      refine ⟨_, len, rfl, .inr ⟨w.heap.size, 0, rfl, rfl, hrow.lt, fun i hi => ?_⟩, hbel⟩
      rw [Nat.zero_add]
      exact hrow.cell hi

end Go.Proofs.Qxb6600143a.Cln
