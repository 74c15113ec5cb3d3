import Derived.Test.Qxb6000480aNumModel
import Derived.Test.Qxb6000480aNumStages
import Derived.Deep.DeepCutAuto
import Derived.Deep.CutBlock
namespace Go.Proofs.Qxb6000480a.Num
open Go.ChangeShapes Go.WideShapes Go.ChangeAt Go.RowKit
open Dfa
set_option linter.unusedVariables false

def NPost (s : ByteArray) (off B : Nat) (w : World) (e : Ending) (w' : World) : Prop :=
  ∃ (st : Int) (j : Nat), F s 0 off = (st, j) ∧ e = .returned (.bool (acc st)) ∧
    w'.cell? ⟨B, 1, none⟩ = some (.int .i64 (if acc st = true then (j : Int) else (off : Int))) ∧ ∀ W : World, W.heap.size ≤ B → Grown W w → Grown W w'

theorem grown_drewN {W w : World} (h : Grown W w) (n : Nat) : Grown W (w.drewN n) := h

theorem npost_bad {s : ByteArray} {off B : Nat} {w : World} (nq : Nat) (h : Bad s off) (c1 : w.cell? ⟨B, 1, none⟩ = some (.int .i64 off)) :
    NPost s off B w (.returned (.bool false)) (w.drewN nq) := by
  obtain ⟨st, j, hF, ha⟩ := h
  exact ⟨st, j, hF, by rw [ha], by rw [ha]; simpa using c1, fun W _ h => grown_drewN h nq⟩

theorem npost_good {s : ByteArray} {off B i : Nat} {w : World} (nq : Nat) (h : Dfa.Good s off i) (c1 : w.cell? ⟨B, 1, none⟩ = some (.int .i64 off)) :
    NPost s off B w (.returned (.bool true)) ((w.setCell ⟨B, 1, none⟩ (.int .i64 i)).drewN nq) := by
  obtain ⟨st, hF, ha⟩ := h
  refine ⟨st, i, hF, by rw [ha], ?_, fun W hB h => grown_drewN (h.setCell (a := ⟨B, 1, none⟩) hB _) nq⟩
  rw [ha]
  show (w.setCell ⟨B, 1, none⟩ (.int .i64 i)).cell? ⟨B, 1, none⟩ = _
  exact World.cell?_setCell_same' w _ _ (by simp [c1])

set_option maxRecDepth 100000 in
set_option maxHeartbeats 4000000 in
theorem number25 (s : ByteArray) (off B : Nat) (hs : s.size ≤ 1048576) (ho : off < s.size) (w : World)
    (c0 : w.cell? ⟨B, 0, none⟩ = some (.string s)) (c1 : w.cell? ⟨B, 1, none⟩ = some (.int .i64 off)) (f1 : w.frozen? ⟨B, 1, none⟩ = false) :
    Calls Try.prog 25 #[.pointer (some ⟨B, 0, none⟩)] w fun e w' => NPost s off B w e w' := by
  go_enter Try.func25, Try.ntmps25
  go_wp2_with fail
  go_quiet (fail)
  go_upto_if 18 with fail
  go_cut [4] (fun v wx => wx = w.drewN nq ∧ ∃ i : Nat, v = .int .i64 i ∧ Hid (P1 s off i))
  case first =>
    go_wp2_with fail
    · go_meet
      case rel => exact ⟨rfl, off + 1, by go_num, p1_minus ho (by simpa using ‹((s[off].toNat : Int) == 45) = true›)⟩
    · go_meet
      case rel => exact ⟨rfl, off, rfl, p1_plain ho (by simpa using ‹((s[off].toNat : Int) == 45) = false›)⟩
  case rest =>
    obtain ⟨rfl, i, rfl, HP⟩ := hcut
    have hi : i ≤ s.size := HP.out.1
    go_upto_block 0 with fail
    go_cut [4] (fun v wx => wx = w.drewN nq ∧ ∃ i : Nat, v = .int .i64 i ∧ Hid (P2 s off i))
    case first =>
      by_cases hlt : i < s.size
      · by_cases h48 : (s[i].toNat : Int) = 48
        · have HP2 : Hid (P2 s off (i + 1)) := p1_zero HP.out hlt h48
          have h48' : ((s[i].toNat : Int) == 48) = true := by simpa using h48
          clear HP h48
          go_wp2_with fail
          go_meet
          case rel => exact ⟨rfl, i + 1, by go_num, HP2⟩
        · have h48' : ((s[i].toNat : Int) == 48) = false := by simpa using h48
          cases hd : digI s[i].toNat
          · have HB : Hid (Bad s off) := p1_bad HP.out (fun _ => hd)
            clear HP h48
            go_wp2_with (go_at_call 30; refine (isDigit30 _ _).mono ?_; rintro e w' ⟨rfl, rfl⟩)
            go_ret
            exact npost_bad nq HB.out c1
          · have HS : Hid (∀ j, Skip s i j → P2 s off j) := fun j k => p1_digits HP.out hlt h48 hd k
            clear HP h48
            go_wp2_with (first | (go_at_call 30; refine (isDigit30 _ _).mono ?_; rintro e w' ⟨rfl, rfl⟩) | (go_at_call 31; refine (skip31 s i hi hs _).mono ?_; rintro e w' ⟨j, rfl, hj, rfl⟩))
            go_meet
            case rel => exact ⟨rfl, j, rfl, HS.out j hj⟩
      · have HB : Hid (Bad s off) := p1_bad HP.out (fun h => absurd h hlt)
        clear HP
        go_wp2_with fail
        go_ret
        exact npost_bad nq HB.out c1
    case rest =>
      clear HP hi
      obtain ⟨rfl, i2, rfl, HP2⟩ := hcut
      have hi2 : i2 ≤ s.size := HP2.out.1
      go_upto_region 9 with fail
      go_cut [57] (fun v wx => wx = w.drewN nq ∧ v = .bool (atB isDot s i2))
      case first =>
        by_cases hlt : i2 < s.size
        · have HE : Hid (atB isDot s i2 = ((s[i2].toNat : Int) == 46)) := atB_lt hlt
          go_wp2_with fail
          go_meet
          case rel => exact ⟨rfl, by rw [HE.out]⟩
        · have HE : Hid (atB isDot s i2 = false) := atB_ge hlt
          go_wp2_with fail
          go_meet
          case rel => exact ⟨rfl, by rw [HE.out]⟩
      case rest =>
        obtain ⟨rfl, rfl⟩ := hcut
        go_upto_if 57 with fail
        go_cut [4] (fun v wx => wx = w.drewN nq ∧ ∃ i : Nat, v = .int .i64 i ∧ Hid (P3 s off i))
        case first =>
          cases hb : atB isDot s i2
          · have HP3 : Hid (P3 s off i2) := p2_none HP2.out (fun h => dot_false (atB_false hb h))
            clear HP2
            go_wp2_with fail
            go_meet
            case rel => exact ⟨rfl, i2, rfl, HP3⟩
          · obtain ⟨hlt, hdot⟩ := atB_true hb
            have HG : Hid (∀ j, Skip s (i2 + 1) j → j ≠ i2 + 1 → P3 s off j) := fun j k n => p2_frac HP2.out hlt (dot_true hdot) k n
            have HB : Hid (Skip s (i2 + 1) (i2 + 1) → Bad s off) := fun k => p2_bad HP2.out hlt (dot_true hdot) k
            clear HP2 hdot
            go_wp2_with fail
            rw [show ((i2 : Int) + 1) = ((i2 + 1 : Nat) : Int) from rfl]
            refine (skip31 s (i2 + 1) hlt hs _).mono ?_
            rintro e w1 ⟨j, rfl, hj, rfl⟩
            by_cases e : j = i2 + 1
            · have HB' : Hid (Bad s off) := HB.out (e ▸ hj)
              have e' : ((j : Int) == (i2 : Int) + 1) = true := by simp; omega
              clear HG HB e
              go_wp2_with fail
              go_ret
              exact npost_bad nq HB'.out c1
            · have HP3 : Hid (P3 s off j) := HG.out j hj e
              have e' : ((j : Int) == (i2 : Int) + 1) = false := by simp; omega
              clear HG HB e
              go_wp2_with fail
              go_meet
              case rel => exact ⟨rfl, j, rfl, HP3⟩
        case rest =>
          clear HP2 hi2
          obtain ⟨rfl, i3, rfl, HP3⟩ := hcut
          have hi3 : i3 ≤ s.size := HP3.out.1
          go_upto_region 14 with fail
          go_cut [82] (fun v wx => wx = w.drewN nq ∧ v = .bool (atB expI s i3))
          case first =>
            by_cases hlt : i3 < s.size
            · have HE : Hid (atB expI s i3 = (((s[i3].toNat : Int) == 101) || ((s[i3].toNat : Int) == 69))) := atB_lt hlt
              go_wp2_with fail
              · go_meet
                case rel => exact ⟨rfl, by rw [HE.out]; simp [‹(s[i3].toNat : Int) = 101›]⟩
              · go_meet
                case rel => exact ⟨rfl, by rw [HE.out]⟩
            · have HE : Hid (atB expI s i3 = false) := atB_ge hlt
              go_wp2_with fail
              go_meet
              case rel => exact ⟨rfl, by rw [HE.out]⟩
          case rest =>
            obtain ⟨rfl, rfl⟩ := hcut
            go_upto_if 82 with fail
            go_cut [4] (fun v wx => wx = w.drewN nq ∧ ∃ i : Nat, v = .int .i64 i ∧ Hid (Dfa.Good s off i))
            case first =>
              cases hb : atB expI s i3
              · have HG : Hid (Dfa.Good s off i3) := p3_none HP3.out (fun h => exp_false (atB_false hb h))
                clear HP3
                go_wp2_with fail
                go_meet
                case rel => exact ⟨rfl, i3, rfl, HG⟩
              · obtain ⟨hlt, hexp⟩ := atB_true hb
                have HF : Hid (F s 0 off = F s 6 (i3 + 1)) := p3_exp HP3.out hlt (exp_true hexp)
                clear HP3 hexp
                obtain ⟨i4, hi4⟩ : ∃ i4, i4 = i3 + 1 := ⟨_, rfl⟩
                have e4 : (i3 : Int) + 1 = (i4 : Int) := by omega
                rw [← hi4] at HF
                have h4 : i4 ≤ s.size := by omega
                clear hi4
                go_upto_region 16 with fail
                go_cut [100] (fun v wx => wx = w.drewN nq ∧ v = .bool (atB isSign s i4))
                case first =>
                  clear e4
                  by_cases hlt4 : i4 < s.size
                  · have HE : Hid (atB isSign s i4 = (((s[i4].toNat : Int) == 43) || ((s[i4].toNat : Int) == 45))) := atB_lt hlt4
                    go_wp2_with fail
                    · go_meet
                      case rel => exact ⟨rfl, by rw [HE.out]; simp [‹(s[i4].toNat : Int) = 43›]⟩
                    · go_meet
                      case rel => exact ⟨rfl, by rw [HE.out]⟩
                  · have HE : Hid (atB isSign s i4 = false) := atB_ge hlt4
                    go_wp2_with fail
                    go_meet
                    case rel => exact ⟨rfl, by rw [HE.out]⟩
                case rest =>
                  clear e4
                  obtain ⟨rfl, rfl⟩ := hcut
                  go_upto_if 100 with fail
                  go_cut [4] (fun v wx => wx = w.drewN nq ∧ ∃ i : Nat, v = .int .i64 i ∧ Hid (P4 s off i))
                  case first =>
                    cases hb4 : atB isSign s i4
                    · have HP4 : Hid (P4 s off i4) := p4_none HF.out h4 (fun h => sign_false (atB_false hb4 h))
                      clear HF
                      go_wp2_with fail
                      go_meet
                      case rel => exact ⟨rfl, i4, rfl, HP4⟩
                    · obtain ⟨hlt4, hsg⟩ := atB_true hb4
                      have HP4 : Hid (P4 s off (i4 + 1)) := p4_sign HF.out hlt4 (sign_true hsg)
                      clear HF hsg
                      go_wp2_with fail
                      go_meet
                      case rel => exact ⟨rfl, i4 + 1, by go_num, HP4⟩
                  case rest =>
                    clear HF
                    obtain ⟨rfl, i5, rfl, HP4⟩ := hcut
                    have hi5 : i5 ≤ s.size := HP4.out.1
                    go_wp2_with fail
                    refine (skip31 s i5 hi5 hs _).mono ?_
                    rintro e w1 ⟨j, rfl, hj, rfl⟩
                    by_cases e : j = i5
                    · have HB : Hid (Bad s off) := p4_bad HP4.out (e ▸ hj)
                      have e' : ((j : Int) == (i5 : Int)) = true := by simp; omega
                      clear HP4 e
                      go_wp2_with fail
                      go_ret
                      exact npost_bad nq HB.out c1
                    · have HG : Hid (Dfa.Good s off j) := p4_good HP4.out hj e
                      have e' : ((j : Int) == (i5 : Int)) = false := by simp; omega
                      clear HP4 e
                      go_wp2_with fail
                      go_meet
                      case rel => exact ⟨rfl, j, rfl, HG⟩
            case rest =>
              clear HP3
              obtain ⟨rfl, i6, rfl, HG⟩ := hcut
              go_wp2_with fail
              go_ret
              exact npost_good nq HG.out c1

end Go.Proofs.Qxb6000480a.Num
