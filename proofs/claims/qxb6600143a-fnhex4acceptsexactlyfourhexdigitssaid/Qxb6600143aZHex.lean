import Derived.Test.Qxb6600143aHex
import Derived.WalkSmall
namespace Go.Proofs.Qxb6600143a.Hex
open Go.ChangeShapes Go.WideShapes Go.ChangeAt Go.RowKit
set_option linter.unusedVariables false

set_option maxHeartbeats 400000 in
theorem zz_short (a : Option Addr) (len cap : Nat) (p : Int) (w : World) (hl : len ≤ 1048580) (h0 : 0 ≤ p) (h1 : p ≤ 9223372036854775807) (hs : (len : Int) - p < 4) :
    Calls Try.prog 23 #[.slice a len cap, .int .i64 p] w fun e w' => e = .returned (.tuple #[.int .i32 0, .bool false, .int .i64 p]) ∧ Below w.heap.size w w' := by
  have hb : ∀ nq, Below w.heap.size w ((w.alloc (.cells #[.slice a len cap, .int .i64 p] 43)).drewN nq) := fun nq => below_drewN ((Below.refl _ _).alloc (Nat.le_refl _) _) nq
  have HB : Hid _ := hb
  clear hb
  go_enter Try.func23, Try.ntmps23
  go_wp2_with fail
  refine (hex4_short a len cap p w.heap.size _ hl h0 h1 hs (by simp) (by simp)).mono ?_
  rintro e w1 ⟨rfl, nq, rfl⟩
  go_wp2_with fail
  go_quiet (fail)
  go_wp2_with fail
  go_ret3
  exact ⟨rfl, by simpa using HB.out _⟩

set_option maxHeartbeats 400000 in
theorem zz_long (b off len cap p : Nat) (g : Nat → Int) (w : World) (hl : len ≤ 1048580) (hs : p + 4 ≤ len) (hcap : len ≤ cap) (hcap2 : cap ≤ 9223372036854775807)
    (hbw : b < w.heap.size) (hc : ∀ i, i < 4 → w.cell? ⟨b, off + p + i, none⟩ = some (.int .u8 (g i))) :
    Calls Try.prog 23 #[.slice (some ⟨b, off, none⟩) len cap, .int .i64 p] w fun e w' =>
      ((AllHex g 4 ∧ e = .returned (.tuple #[.int .i32 (val g 4), .bool true, .int .i64 ((p : Int) + 4)])) ∨
      (¬ AllHex g 4 ∧ e = .returned (.tuple #[.int .i32 0, .bool false, .int .i64 p]))) ∧ Below w.heap.size w w' := by
  have hb0 : Below w.heap.size w (w.alloc (.cells #[.slice (some ⟨b, off, none⟩) len cap, .int .i64 p] 43)) := (Below.refl _ _).alloc (Nat.le_refl _) _
  have hc' : ∀ i, i < 4 → (w.alloc (.cells #[.slice (some ⟨b, off, none⟩) len cap, .int .i64 p] 43)).cell? ⟨b, off + p + i, none⟩ = some (.int .u8 (g i)) := fun i hi => (hb0.cell (by exact hbw)).trans (hc i hi)
  have HC : Hid _ := hc'
  have HB : Hid _ := hb0
  clear hc' hc hb0
  go_enter Try.func23, Try.ntmps23
  go_wp2_with fail
  refine (hex4_long b off len cap p g w.heap.size _ hl hs hcap hcap2 (by simp) (by simp) (by simp) HC.out).mono ?_
  rintro e w1 (⟨hA, rfl, nq, rfl⟩ | ⟨hA, rfl, nq, rfl⟩)
  · have HA : Hid _ := hA
    clear hA
    have hx : ((w.alloc (.cells #[.slice (some ⟨b, off, none⟩) len cap, .int .i64 p] 43)).setCell ⟨w.heap.size, 1, none⟩ (.int .i64 ((p : Int) + 4))).cell? ⟨w.heap.size, 1, none⟩ = some (.int .i64 ((p : Int) + 4)) := World.cell?_setCell_same' _ _ _ (by simp)
    have HB2 : Hid _ := fun nq => below_drewN (HB.out.setCell (p := ⟨w.heap.size, 1, none⟩) (Nat.le_refl _) (.int .i64 ((p : Int) + 4))) nq
    generalize (w.alloc (.cells #[.slice (some ⟨b, off, none⟩) len cap, .int .i64 p] 43)).setCell ⟨w.heap.size, 1, none⟩ (.int .i64 ((p : Int) + 4)) = wy at *
    clear HC HB
    go_wp2_with fail
    go_quiet (fail)
    go_wp2_with fail
    go_ret3
    exact ⟨.inl ⟨HA.out, rfl⟩, by simpa using HB2.out _⟩
  · have HA : Hid _ := hA
    clear hA
    have HB2 : Hid _ := fun nq => below_drewN HB.out nq
    clear HC HB
    go_wp2_with fail
    go_quiet (fail)
    go_wp2_with fail
    go_ret3
    exact ⟨.inr ⟨HA.out, rfl⟩, by simpa using HB2.out _⟩

end Go.Proofs.Qxb6600143a.Hex
