import Derived.Test.Qxb6000480aRows
import Derived.WalkKit
import Derived.WalkSpells
import Derived.WalkLawsBesides
import Derived.ProofKit
import Derived.OpenShut
import Derived.Below
import Derived.Deep.OwnRows
namespace Go.Proofs.Qxb6000480a.Srch
open Go.ChangeShapes Go.WideShapes Go.ChangeAt Go.RowKit
set_option linter.unusedVariables false

theorem info2 : (Try.prog.info? 2).map (fun i => (i.zero, i.size, i.bytes)) = some (some (.int .i64 0), 1, 8) := by kernel_rfl

set_option maxHeartbeats 400000 in
theorem copy_nil (w : World) :
    Calls Try.prog 12 #[.slice none 0 0] w fun e w' => e = .returned (.slice none 0 0) ∧ w' = w := by
  have hnil := fun (w : World) (a : Option Addr) (n c : Nat) => Lib.run_eql_slice_nil (P := Try.prog) w 22 2 a n c 0 0 Try.underlying22
  go_enter Try.func12, Try.ntmps12
  go_wp2
  go_ret
  exact ⟨rfl, rfl⟩

set_option maxHeartbeats 400000 in
theorem copy_some (b off len cap : Nat) (zs : List Int) (w : World) (hl : len ≤ 1048576) (hb : b < w.heap.size)
    (hc : ∀ i, i < len → w.cell? ⟨b, off + i, none⟩ = some (.int .i64 (zs.getD i 0))) :
    Calls Try.prog 12 #[.slice (some ⟨b, off, none⟩) len cap] w fun e w' => e = .returned (.slice (some ⟨w.heap.size, 0, none⟩) len len) ∧
      w'.rowIs w.heap.size 2 len (fun i => .int .i64 (zs.getD i 0)) ∧ Below w.heap.size w w' := by
  have hnil := fun (w : World) (a : Option Addr) (n c : Nat) => Lib.run_eql_slice_nil (P := Try.prog) w 22 2 a n c 0 0 Try.underlying22
  have hmk := fun (w : World) => run_make_row' (P := Try.prog) 22 2 (.int .i64 0) 8 Try.underlying22 info2 rfl .i64 .i64 len (by omega) (by omega) w
  go_enter Try.func12, Try.ntmps12
  go_wp2
  go_loopw [4] (fun i wr => ∃ k : Nat, k ≤ len ∧ i = .int .i64 k ∧ wr.rowIs w.heap.size 2 len (fun j => .int .i64 (if j < k then zs.getD j 0 else 0)) ∧ Below w.heap.size w wr)
    (fun i _ => len - (intOf i).toNat)
  case atStart => exact ⟨0, Nat.zero_le _, rfl, (World.rowIs_made _ _ _ _).congr (fun i _ => by simp), (Below.refl _ _).alloc (Nat.le_refl _) _⟩
  case round =>
    obtain ⟨k, hk, rfl, hrow, hbel⟩ := hrel
    by_cases hlt : k < len
    · have hcx : wr.cell? ⟨b, off + k, none⟩ = some (.int .i64 (zs.getD k 0)) := (hbel.cell (by exact hb)).trans (hc k hlt)
      have hcy := hrow.cell hlt
      have hfy := hrow.frozen k
      go_wp2
      go_roundw
      case rel =>
        exact ⟨k + 1, by omega, by go_num, (hrow.set k _).congr (fun i hi => by
          by_cases e : i = k
          · subst e; simp
          · have e1 : (i < k + 1) = (i < k) := by simp; omega
            simp [e, e1]), hbel.setCell (Nat.le_refl _) _⟩
      case measure => simp [intOf]; omega
    · have : k = len := by omega
      subst this
      go_wp2
      go_ret
      exact ⟨rfl, hrow.congr (fun i hi => by simp [hi]), hbel⟩

set_option maxHeartbeats 400000 in
theorem len28 (a : Option Addr) (len cap : Nat) (s : Int) (w : World) (hl : len ≤ 1048576) (hs : 1 ≤ s) :
    Calls Try.prog 28 #[.agg #[.slice a len cap, .int .i64 s]] w fun e w' => e = .returned (.int .i64 ((len : Int) / s)) ∧ Below w.heap.size w w' := by
  have h0 : (s == 0) = false := by simp; omega
  have hd0 : 0 ≤ (len : Int) / s := Int.ediv_nonneg (by omega) (by omega)
  have hd1 : (len : Int) / s ≤ 1048576 := by
    have := Int.ediv_le_self s (show (0 : Int) ≤ (len : Int) by omega)
    omega
  go_enter Try.func28, Try.ntmps28
  go_wp2
  go_ret
  exact ⟨rfl, (Below.refl _ _).alloc (Nat.le_refl _) _⟩

set_option maxHeartbeats 400000 in
theorem time29 (b off len cap : Nat) (s i : Int) (zs : List Int) (w : World) (hl : len ≤ 1048576) (h0 : 0 ≤ i * s) (h1 : i * s < len) (hb : b < w.heap.size)
    (hc : ∀ i, i < len → w.cell? ⟨b, off + i, none⟩ = some (.int .i64 (zs.getD i 0))) :
    Calls Try.prog 29 #[.agg #[.slice (some ⟨b, off, none⟩) len cap, .int .i64 s], .int .i64 i] w fun e w' => e = .returned (.int .i64 (zs.getD (i * s).toNat 0)) ∧ Below w.heap.size w w' := by
  have hcx : (w.alloc (.cells #[.slice (some ⟨b, off, none⟩) len cap, .int .i64 s] 35)).cell? ⟨b, off + (i * s).toNat, none⟩ = some (.int .i64 (zs.getD (i * s).toNat 0)) :=
    (((Below.refl w.heap.size w).alloc (Nat.le_refl _) _).cell (by exact hb)).trans (hc _ (by omega))
  go_enter Try.func29, Try.ntmps29
  go_wp2

  go_ret
  exact ⟨rfl, (Below.refl _ _).alloc (Nat.le_refl _) _⟩

end Go.Proofs.Qxb6000480a.Srch
