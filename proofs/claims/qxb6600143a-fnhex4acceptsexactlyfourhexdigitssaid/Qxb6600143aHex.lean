import Derived.Test.Qxb6600143aRows
import Derived.WalkKit
import Derived.WalkSpells
import Derived.WalkLawsBesides
import Derived.ProofKit
import Derived.OpenShut
import Derived.Below
import Derived.Deep.OwnRows
import Derived.Deep.Light
import Derived.Deep.QuietTactic
import Derived.BigQuiet
import Derived.Laws.BitsLemmas
import Derived.Laws.BitsAllLaws
namespace Go.Proofs.Qxb6600143a.Hex
open Go.ChangeShapes Go.WideShapes Go.ChangeAt Go.RowKit
set_option linter.unusedVariables false

/-- A hex digit's value; -1 where it is none. -/
def hexv (c : Int) : Int := if 48 ≤ c ∧ c ≤ 57 then c - 48 else if 97 ≤ c ∧ c ≤ 102 then c - 87 else if 65 ≤ c ∧ c ≤ 70 then c - 55 else -1

set_option maxHeartbeats 400000 in
theorem hex4_short (a : Option Addr) (len cap : Nat) (p : Int) (B : Nat) (w : World) (hl : len ≤ 1048580) (h0 : 0 ≤ p) (h1 : p ≤ 9223372036854775807) (hs : (len : Int) - p < 4)
    (c0 : w.cell? ⟨B, 0, none⟩ = some (.slice a len cap)) (c1 : w.cell? ⟨B, 1, none⟩ = some (.int .i64 p)) :
    Calls Try.prog 30 #[.pointer (some ⟨B, 0, none⟩)] w fun e w' => e = .returned (.tuple #[.int .i32 0, .bool false]) ∧ ∃ nq, w' = w.drewN nq := by
  go_enter Try.func30, Try.ntmps30
  go_wp2_with fail
  go_quiet (fail)
  go_wp2_with fail
  go_ret2
  exact ⟨rfl, _, rfl⟩

theorem or_i32 (u d : Int) (h0 : 0 ≤ u) (h1 : u ≤ 4095) (h2 : 0 ≤ d) (h3 : d ≤ 15) : bits .or .i32 (u * 16) d = u * 16 + d := by
  obtain ⟨U, rfl⟩ := Int.eq_ofNat_of_zero_le h0
  obtain ⟨D, rfl⟩ := Int.eq_ofNat_of_zero_le h2
  have e : (U : Int) * 16 = ((U * 16 : Nat) : Int) := by omega
  rw [e]
  show IntKind.i32.wrap ((BitVec.ofInt 32 ((U * 16 : Nat) : Int) ||| BitVec.ofInt 32 (D : Int)).toNat : Int) = _
  rw [BitVec.toNat_or, ofInt_u32 (U * 16) (by omega), ofInt_u32 D (by omega), nat_join 4 (U * 16) D (by omega) (by omega), IntKind.wrap_i32]
  omega

theorem and15 (n : Int) : bits .and .i64 n 15 = n % 16 := by
  have h15 : (BitVec.ofInt 64 15).toNat = 2 ^ 4 - 1 := by decide
  have key : (BitVec.ofInt 64 n &&& BitVec.ofInt 64 15).toNat = (n % ((2 ^ 64 : Nat) : Int)).toNat % 2 ^ 4 := by
    rw [BitVec.toNat_and, BitVec.toNat_ofInt, h15, Nat.and_two_pow_sub_one_eq_mod]
  show IntKind.i64.wrap ((BitVec.ofInt 64 n &&& BitVec.ofInt 64 15).toNat : Nat) = n % 16
  rw [key, IntKind.wrap_i64]
  omega

/-- The value of the first k digits. -/
def val (g : Nat → Int) : Nat → Int
  | 0 => 0
  | k + 1 => val g k * 16 + hexv (g k)
def AllHex (g : Nat → Int) (k : Nat) : Prop := ∀ i, i < k → 0 ≤ hexv (g i)

theorem hexv_le (c : Int) : hexv c ≤ 15 := by
  unfold hexv
  repeat' split
  all_goals omega

theorem val_bd {g : Nat → Int} : ∀ {k : Nat}, AllHex g k → 0 ≤ val g k ∧ val g k < 16 ^ k
  | 0, _ => by simp [val]
  | k + 1, h => by
    have ih := val_bd (k := k) (fun i hi => h i (by omega))
    have h0 := h k (by omega)
    have h1 := hexv_le (g k)
    simp only [val, Int.pow_succ]
    omega

theorem val_small {g : Nat → Int} {k : Nat} (h : AllHex g k) (hk : k < 4) : 0 ≤ val g k ∧ val g k ≤ 4095 := by
  have hb := val_bd h
  refine ⟨hb.1, ?_⟩
  have hk' : k = 0 ∨ k = 1 ∨ k = 2 ∨ k = 3 := by omega
  rcases hk' with rfl | rfl | rfl | rfl
  all_goals
    have hb2 := hb.2
    simp at hb2
    omega

set_option maxHeartbeats 1000000 in
theorem hex4_long (b off len cap p : Nat) (g : Nat → Int) (B : Nat) (w : World) (hl : len ≤ 1048580) (hs : p + 4 ≤ len) (hcap : len ≤ cap) (hcap2 : cap ≤ 9223372036854775807)
    (c0 : w.cell? ⟨B, 0, none⟩ = some (.slice (some ⟨b, off, none⟩) len cap)) (c1 : w.cell? ⟨B, 1, none⟩ = some (.int .i64 p)) (f1 : w.frozen? ⟨B, 1, none⟩ = false)
    (hc : ∀ i, i < 4 → w.cell? ⟨b, off + p + i, none⟩ = some (.int .u8 (g i))) :
    Calls Try.prog 30 #[.pointer (some ⟨B, 0, none⟩)] w fun e w' =>
      (AllHex g 4 ∧ e = .returned (.tuple #[.int .i32 (val g 4), .bool true]) ∧ ∃ nq, w' = (w.setCell ⟨B, 1, none⟩ (.int .i64 ((p : Int) + 4))).drewN nq) ∨
      (¬ AllHex g 4 ∧ e = .returned (.tuple #[.int .i32 0, .bool false]) ∧ ∃ nq, w' = w.drewN nq) := by
  go_enter Try.func30, Try.ntmps30
  go_wp2_with fail
  go_quiet (fail)
  go_wp2_with fail
  go_quiet (fail)
  go_wp2_with fail
  have HC : Hid _ := hc
  clear hc
  go_loop [4, 33] (fun x y => ∃ k : Nat, x = .int .i32 (val g k) ∧ y = .int .i64 k ∧ k ≤ 4 ∧ Hid (AllHex g k)) (fun _ y => 4 - (intOf y).toNat)
  case atStart => exact ⟨0, rfl, rfl, by omega, fun i h => by omega⟩
  case round =>
    obtain ⟨k, rfl, rfl, hk, HA⟩ := hrel
    by_cases hlt : k < 4
    · have hck := HC.out k hlt
      have hv := val_small HA.out hlt
      have HV : Hid (0 ≤ hexv (g k) → AllHex g (k + 1) ∧ val g (k + 1) = val g k * 16 + hexv (g k)) := fun h => ⟨fun i hi => by
        by_cases e : i = k
        · rw [e]; exact h
        · exact HA.out i (by omega), rfl⟩
      have HN : Hid (hexv (g k) < 0 → ¬ AllHex g 4) := fun h a => by have := a k hlt; omega
      clear HA
      generalize g k = c at *
      generalize val g k = u at *
      by_cases h1 : 48 ≤ c ∧ c ≤ 57
      · obtain ⟨h1a, h1b⟩ := h1
        have hx : hexv c = c - 48 := by simp [hexv, h1a, h1b]
        obtain ⟨HA', HV'⟩ := HV.out (by omega)
        rw [hx] at HV'
        have HA2 : Hid _ := HA'
        have HV2 : Hid _ := HV'
        have ho := or_i32 u (c - 48) (by omega) (by omega) (by omega) (by omega)
        clear hx HA' HV' HN HV
        go_wp2_with fail
        go_round
        case rel => exact ⟨_, _, _, _, _, ⟨k + 1, by rw [HV2.out], by go_num, by omega, HA2⟩, rfl, rfl, rfl, rfl, rfl⟩
        case measure => simp [intOf]; omega
      by_cases h2 : 97 ≤ c ∧ c ≤ 102
      · obtain ⟨h2a, h2b⟩ := h2
        have hx : hexv c = c - 87 := by simp only [hexv]; rw [if_neg (by omega), if_pos (by omega)]
        clear h1
        obtain ⟨HA', HV'⟩ := HV.out (by omega)
        rw [hx] at HV'
        have HA2 : Hid _ := HA'
        have HV2 : Hid _ := HV'
        have ho := or_i32 u (c - 87) (by omega) (by omega) (by omega) (by omega)
        clear hx HA' HV' HN HV
        go_wp2_with fail
        go_round
        case rel => exact ⟨_, _, _, _, _, ⟨k + 1, by rw [HV2.out], by go_num, by omega, HA2⟩, rfl, rfl, rfl, rfl, rfl⟩
        case measure => simp [intOf]; omega
      by_cases h3 : 65 ≤ c ∧ c ≤ 70
      · obtain ⟨h3a, h3b⟩ := h3
        have hx : hexv c = c - 55 := by simp only [hexv]; rw [if_neg (by omega), if_neg (by omega), if_pos (by omega)]
        clear h1 h2
        obtain ⟨HA', HV'⟩ := HV.out (by omega)
        rw [hx] at HV'
        have HA2 : Hid _ := HA'
        have HV2 : Hid _ := HV'
        have ho := or_i32 u (c - 55) (by omega) (by omega) (by omega) (by omega)
        clear hx HA' HV' HN HV
        go_wp2_with fail
        go_round
        case rel => exact ⟨_, _, _, _, _, ⟨k + 1, by rw [HV2.out], by go_num, by omega, HA2⟩, rfl, rfl, rfl, rfl, rfl⟩
        case measure => simp [intOf]; omega
      have hx : hexv c = -1 := by simp only [hexv]; rw [if_neg h1, if_neg h2, if_neg h3]
      have HB : Hid (¬ AllHex g 4) := HN.out (by omega)
      clear HN HV hx
      have hcases : c < 48 ∨ (57 < c ∧ c < 65) ∨ (70 < c ∧ c < 97) ∨ 102 < c := by omega
      clear h1 h2 h3
      rcases hcases with h | ⟨h, h'⟩ | ⟨h, h'⟩ | h
      all_goals
        go_wp2_with fail
        go_ret2
        exact .inr ⟨HB.out, rfl, _, rfl⟩
    · have ek : k = 4 := by omega
      subst ek
      go_wp2_with fail
      go_ret2
      exact .inl ⟨HA.out, rfl, _, rfl⟩

end Go.Proofs.Qxb6600143a.Hex
