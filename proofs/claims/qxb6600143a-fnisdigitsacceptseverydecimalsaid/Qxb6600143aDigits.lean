import Derived.Test.Qxb6600143aRows
import Derived.WalkKit
import Derived.WalkSpells
import Derived.WalkLawsBesides
import Derived.ProofKit
import Derived.OpenShut
import Derived.ShutString
import Derived.Below
import Derived.Deep.OwnRows
import Derived.Deep.Light
import Derived.Deep.Cut
import Derived.OwnWalk
namespace Go.Proofs.Qxb6600143a.Digs
open Go.ChangeShapes Go.WideShapes Go.ChangeAt Go.RowKit
set_option linter.unusedVariables false

theorem info5 : (Try.prog.info? 5).map (fun i => (i.zero, i.size, i.bytes)) = some (some (.int .u8 0), 1, 1) := by kernel_rfl

def isD (b : UInt8) : Prop := 48 ≤ (b.toNat : Int) ∧ (b.toNat : Int) ≤ 57

set_option maxHeartbeats 400000 in
theorem isDigits28 (s : ByteArray) (h0 : 0 < s.size) (hs : s.size ≤ 1048576) (hd : ∀ k (h : k < s.size), isD s[k]) (w : World) :
    Calls Try.prog 28 #[.string s] w fun e w' => e = .returned (.bool true) ∧ w' = w := by
  have he : s.toList.isEmpty = false := by
    rw [Bool.eq_false_iff]
    intro h
    have : s.toList.length = s.size := by rw [ByteArray.toList_eq]; simp
    rw [List.isEmpty_iff] at h
    rw [h] at this
    simp at this
    omega
  have HD : Hid _ := hd
  clear hd
  go_enter Try.func28, Try.ntmps28
  go_wp2
  go_loop [3] (fun x => ∃ k : Nat, x = .int .i64 k ∧ k ≤ s.size) (fun x => s.size - (intOf x).toNat)
  case atStart => exact ⟨0, rfl, Nat.zero_le _⟩
  case round =>
    obtain ⟨k, rfl, hk⟩ := hrel
    by_cases hlt : k < s.size
    · have hc := HD.out k hlt
      unfold isD at hc
      obtain ⟨hc0, hc1⟩ := hc
      go_wp2
      go_round
      case rel => exact ⟨k + 1, by go_num, by omega⟩
      case measure => simp [intOf]; omega
    · go_wp2
      go_ret
      exact ⟨rfl, rfl⟩

theorem isDigits13 (s : ByteArray) (h0 : 0 < s.size) (hs : s.size ≤ 1048576) (hd : ∀ k (h : k < s.size), isD s[k]) (w : World) :
    Calls Try.prog 13 #[.string s] w fun e w' => e = .returned (.bool true) ∧ w' = w := by
  have HD : Hid _ := hd
  clear hd
  go_enter Try.func13, Try.ntmps13
  go_wp2_with (go_at_call 28; refine (isDigits28 s h0 hs HD.out _).mono ?_; rintro e w' ⟨rfl, rfl⟩)
  go_ret
  exact ⟨rfl, rfl⟩

theorem pow_step {i : Nat} {m : Int} (h0 : 0 ≤ m) (h : m < 10 ^ (i + 1)) : m / 10 < 10 ^ i := by
  rw [Int.pow_succ] at h
  omega
theorem pow_pos {i : Nat} {m : Int} (h0 : 0 ≤ m) (h : m / 10 < 10 ^ i) (hn : ¬ m / 10 = 0) : 1 ≤ i := by
  rcases Nat.eq_zero_or_pos i with e | e
  · rw [e, Int.pow_zero] at h
    omega
  · exact e

/-- The digits' array: from i on all are digits. -/
def Arr (wr : World) (B i : Nat) : Prop := ∃ g : Nat → Int, wr.rowIs B 27 20 (fun j => .int .u8 (g j)) ∧ ∀ j, i ≤ j → j < 20 → 48 ≤ g j ∧ g j ≤ 57

theorem Arr.start (w : World) (c : Array Value) (hc : c = Array.replicate 20 (.int .u8 0)) : Arr (w.alloc (.cells c 27)) w.heap.size 20 := by
  subst hc
  refine ⟨fun _ => 0, ?_, fun j h1 h2 => by omega⟩
  have := World.rowIs_alloc w (Array.replicate 20 (.int .u8 0)) 27 (fun _ => .int .u8 0) (fun i hi => by
    rw [Array.getElem?_replicate, if_pos (by simpa using hi)])
  simpa using this

theorem Arr.cell {wr : World} {B i j : Nat} (h : Arr wr B i) (hj : j < 20) : ∃ x : Int, wr.cell? ⟨B, j, none⟩ = some (.int .u8 x) ∧ (i ≤ j → 48 ≤ x ∧ x ≤ 57) := by
  obtain ⟨g, hr, hg⟩ := h
  exact ⟨g j, hr.cell hj, fun h => hg j h hj⟩

theorem Arr.frozen {wr : World} {B i : Nat} (h : Arr wr B i) (j : Nat) : wr.frozen? ⟨B, j, none⟩ = false := by
  obtain ⟨g, hr, hg⟩ := h
  exact hr.frozen j

theorem Arr.set {wr : World} {B i : Nat} (h : Arr wr B (i + 1)) (x : Int) (hx : 48 ≤ x ∧ x ≤ 57) : Arr (wr.setCell ⟨B, i, none⟩ (.int .u8 x)) B i := by
  obtain ⟨g, hr, hg⟩ := h
  refine ⟨fun j => if j = i then x else g j, (hr.set i _).congr (fun j hj => ?_), fun j h1 h2 => ?_⟩
  · by_cases e : j = i <;> simp [e]
  · by_cases e : j = i
    · simpa [e] using hx
    · simpa [e] using hg j (by omega) h2

/-! ### The bytes that are gathered -/
def cellOf (b : UInt8) : Value := .int .u8 (b.toNat : Int)

structure Own (wr : World) (G k cap : Nat) (l : List UInt8) : Prop where
  len : l.length = k
  dig : ∀ b ∈ l, isD b
  row : wr.ownsRow G 5 1 (.slice (some ⟨G, 0, none⟩) k cap) k (l.map cellOf)

theorem Own.start {wr : World} {G cap : Nat} (h : wr.ownsRow G 5 1 (.slice (some ⟨G, 0, none⟩) 0 cap) 0 []) : Own wr G 0 cap [] := ⟨rfl, fun b h => by simp at h, h⟩

theorem Own.push {wr wx : World} {G k cap : Nat} {l : List UInt8} (h : Own wr G k cap l) (b : UInt8) (hb : isD b)
    (hr : wx.ownsRow G 5 1 (.slice (some ⟨G, 0, none⟩) (k + 1) cap) (k + 1) (l.map cellOf ++ [.int .u8 (b.toNat : Int)])) : Own wx G (k + 1) cap (l ++ [b]) := by
  refine ⟨by simp [h.len], fun x hx => ?_, by simpa [cellOf] using hr⟩
  rcases List.mem_append.1 hx with hx | hx
  · exact h.dig x hx
  · rw [List.mem_singleton.1 hx]; exact hb

theorem Own.cells {wr : World} {G k cap : Nat} {l : List UInt8} (h : Own wr G k cap l) : ∀ j (hj : j < l.length), wr.cell? ((⟨G, 0, none⟩ : Addr).add j) = some (.int .u8 (l[j].toNat : Int)) := by
  intro j hj
  obtain ⟨h1, h2⟩ := h.row
  rcases h2 with ⟨h2, _⟩ | ⟨g, cap', cur, hv, hg, hh, hn, hm, hs, ht⟩
  · simp at h2
  · simp at hv
    obtain ⟨rfl, rfl⟩ := hv
    rw [add_plain]
    have hlen := h.len
    have e : (cur.toList.take (k * 1))[j]? = (l.map cellOf)[j]? := by rw [ht]
    rw [List.getElem?_take, if_pos (by omega)] at e
    simp [List.getElem?_eq_getElem hj, cellOf] at e
    simp [World.cell?, hh, e]

theorem byte_of {x : Int} (h0 : 48 ≤ x) (h1 : x ≤ 57) : ∃ b : UInt8, (b.toNat : Int) = x ∧ isD b := by
  refine ⟨UInt8.ofNat x.toNat, ?_, ?_⟩
  · simp; omega
  · unfold isD; simp; omega

set_option maxHeartbeats 1000000 in
theorem decimal5 (n : Int) (z : Int) (w : World) (h0 : 0 ≤ n) (h1 : n ≤ 18446744073709551615) :
    Calls Try.prog 5 #[.int .u64 n, .int .i64 z] w fun e w' => e = .returned (.bool true) ∧ Below w.heap.size w w' := by
  by_cases hz0 : z < 0
  · go_enter Try.func5, Try.ntmps5
    go_wp2_with fail
    go_ret
    exact ⟨rfl, Below.refl _ _⟩
  · by_cases hz1 : 65536 < z
    · go_enter Try.func5, Try.ntmps5
      go_wp2_with fail
      go_ret
      exact ⟨rfl, Below.refl _ _⟩
    · obtain ⟨Z, rfl⟩ := Int.eq_ofNat_of_zero_le (show (0 : Int) ≤ z by omega)
      have HN : Hid (n < 10 ^ 20) := by
        have e : (10 : Int) ^ 20 = 100000000000000000000 := by decide
        show n < 10 ^ 20
        rw [e]
        omega
      go_enter Try.func5, Try.ntmps5
      go_wp2_with fail
      go_loopw [6, 7] (fun x y wr => ∃ (i : Nat) (m : Int), x = .int .i64 i ∧ y = .int .u64 m ∧ 1 ≤ i ∧ i ≤ 20 ∧ 0 ≤ m ∧ m ≤ 18446744073709551615 ∧ Hid (m < 10 ^ i) ∧ Arr wr w.heap.size i ∧ Below w.heap.size w wr)
        (fun x _ _ => (intOf x).toNat)
      case atStart => exact ⟨20, n, rfl, rfl, by omega, by omega, h0, h1, HN, Arr.start w _ rfl, (Below.refl _ _).alloc (Nat.le_refl _) _⟩
      case round =>
        clear HN h0 h1
        obtain ⟨i, m, rfl, rfl, i0, i1, m0, m1, hm, harr, hbel⟩ := hrel
        obtain ⟨k, rfl⟩ : ∃ k, i = k + 1 := ⟨i - 1, by omega⟩
        have HM : Hid (m / 10 < 10 ^ k) := pow_step m0 hm.out
        clear hm
        obtain ⟨x, hcx, -⟩ := harr.cell (show k < 20 by omega)
        have hfx := harr.frozen k
        by_cases hq : m / 10 = 0
        · have hq' : (m / 10 == 0) = true := by simpa using hq
          have harr2 := harr.set (48 + m % 10) (by omega)
          have hbel2 := hbel.setCell (p := ⟨w.heap.size, k, none⟩) (Nat.le_refl _) (.int .u8 (48 + m % 10))
          clear hq HM
          obtain ⟨y0, hy, hy0, hy1, hy2⟩ := info_parts info5
          go_upto_region 10 with fail
          generalize wr.setCell ⟨w.heap.size, k, none⟩ (.int .u8 (48 + m % 10)) = wx at *
          have hB : w.heap.size < wx.heap.size := by
            obtain ⟨g, hr, _⟩ := harr2
            exact hr.lt
          clear harr hbel hcx hfx
          go_wp2_with (at_make; refine wpList_make_own _ rfl _ _ 25 rfl wx.heap.size 5 y0 (.int .u8 0) 1 Try.underlying25 hy hy0 hy1 _ _ _ (Z + 20) rfl rfl (by omega) ?b2 ?b3 (Nat.le_refl _) ?_)
          case b2 => rw [hy2]; omega
          case b3 => unfold maxLen; omega
          intro w0 hown0 hgrow0
          have hbel0 : Below wx.heap.size wx w0 := (Below.refl _ _).grown hgrow0 (Nat.le_refl _) (fun k e => by cases e)
          have hO := Own.start hown0
          clear hown0 hgrow0
          go_wp2_with fail
          go_loopw [8, 9] (fun v x w2 => ∃ (c : Nat) (l : List UInt8), x = .int .i64 c ∧ c ≤ Z ∧ v = .slice (some ⟨wx.heap.size, 0, none⟩) c (Z + 20) ∧ Own w2 wx.heap.size c (Z + 20) l ∧ Below wx.heap.size wx w2)
            (fun _ x _ => Z - (intOf x).toNat)
          case atStart => exact ⟨0, [], rfl, Nat.zero_le _, rfl, hO, hbel0⟩
          case round =>
            clear hO hbel0
            obtain ⟨c, l, rfl, hc, rfl, hO, hbl⟩ := hrel
            by_cases hlt : c < Z
            · go_wp2_with (at_builtin; refine wpList_append_fits _ rfl _ _ 25 rfl wx.heap.size 5 y0 1 Try.underlying25 hy hy1 wx.heap.size c (Z + 20) _ rfl (hO.row.alloc _) ⟨wr.heap.size, 0, none⟩ 1 1 [.int .u8 48] rfl rfl ?c1 ?c2 ?c3 ?_)
              case c1 => exact cell_one_new _ _ _
              case c2 => intro u hu; simp at hu; subst hu; rfl
              case c3 => omega
              intro w3 hown3 hgrow3
              have hO3 := hO.push 48 (by unfold isD; simp) (by simpa using hown3)
              have hbl3 : Below wx.heap.size wx w3 := (hbl.alloc hbl.size _).grown hgrow3 (by have := hbl.size; simp; omega) (fun k e => by simp at e; omega)
              clear hO hbl hown3 hgrow3
              go_wp2_with fail
              go_roundw
              case rel => exact ⟨c + 1, _, by go_num, by omega, rfl, hO3, hbl3⟩
              case measure => simp [intOf]; omega
            · have : c = Z := by omega
              subst this
              go_wp2_with fail
              go_loopw [8, 10] (fun v x w2 => ∃ (j d : Nat) (l : List UInt8), x = .int .i64 j ∧ k ≤ j ∧ j ≤ 20 ∧ Hid (d + k = c + j) ∧ v = .slice (some ⟨wx.heap.size, 0, none⟩) d (c + 20) ∧ Own w2 wx.heap.size d (c + 20) l ∧ Below wx.heap.size wx w2)
                (fun _ x _ => 20 - (intOf x).toNat)
              case atStart => exact ⟨k, c, l, rfl, Nat.le_refl _, by omega, rfl, rfl, hO, hbl⟩
              case round =>
                clear hO hbl
                obtain ⟨j, d, l, rfl, hj0, hj1, hd, rfl, hO, hbl⟩ := hrel
                by_cases hlt : j < 20
                · obtain ⟨x, hx, hx1⟩ := harr2.cell hlt
                  obtain ⟨b, hb, hbd⟩ := byte_of (hx1 hj0).1 (hx1 hj0).2
                  have hx2 : wr.cell? ⟨w.heap.size, j, none⟩ = some (.int .u8 (b.toNat : Int)) := by
                    rw [hb]; exact (hbl.cell (by exact hB)).trans hx
                  clear hx hx1 hb
                  go_wp2_with (at_builtin; refine wpList_append_fits _ rfl _ _ 25 rfl wx.heap.size 5 y0 1 Try.underlying25 hy hy1 wx.heap.size d (c + 20) _ rfl (hO.row.alloc _) ⟨wr.heap.size, 0, none⟩ 1 1 [.int .u8 (b.toNat : Int)] rfl rfl ?d1 ?d2 ?d3 ?_)
                  case d1 => exact cell_one_new _ _ _
                  case d2 => intro u hu; simp at hu; subst hu; rfl
                  case d3 => have := hd.out; omega
                  intro w3 hown3 hgrow3
                  have hO3 := hO.push b hbd hown3
                  have hbl3 : Below wx.heap.size wx w3 := (hbl.alloc hbl.size _).grown hgrow3 (by have := hbl.size; simp; omega) (fun k e => by simp at e; omega)
                  clear hO hbl hown3 hgrow3 hx2
                  have hd3 : Hid (d + 1 + k = c + (j + 1)) := by have := hd.out; show d + 1 + k = c + (j + 1); omega
                  clear hd
                  go_wp2_with fail
                  go_roundw
                  case rel => exact ⟨j + 1, d + 1, _, by go_num, by omega, by omega, hd3, rfl, hO3, hbl3⟩
                  case measure => simp [intOf]; omega
                · have hcv := run_convert_bytes_back (P := Try.prog) wr 25 9 5 ⟨wx.heap.size, 0, none⟩ (c + 20) l Try.underlying25 Try.underlying5 Try.underlying9 hO.cells
                  rw [hO.len] at hcv
                  have hsz : (⟨l.toArray⟩ : ByteArray).size = d := by
                    show l.toArray.size = d
                    simpa using hO.len
                  have HS : Hid _ := hsz
                  have hdd : 0 < d ∧ d ≤ 65556 := by have := hd.out; omega
                  have hall : ∀ q (h : q < (⟨l.toArray⟩ : ByteArray).size), isD (⟨l.toArray⟩ : ByteArray)[q] := fun q h => hO.dig _ (by
                    have hq : q < l.length := by rw [hO.len]; omega
                    have e : (⟨l.toArray⟩ : ByteArray)[q] = l[q] := by simp [ByteArray.getElem_eq_getElem_data]
                    rw [e]
                    exact List.getElem_mem _)
                  have HA : Hid _ := hall
                  have hfin : Below w.heap.size w wr := hbel2.trans (hbl.mono (Nat.le_of_lt hB))
                  clear hall hsz hO hbl hd
                  generalize (⟨l.toArray⟩ : ByteArray) = str at *
                  go_wp2_with (go_at_call 13; refine (isDigits13 str (by have := HS.out; omega) (by have := HS.out; omega) HA.out _).mono ?_; rintro e w' ⟨rfl, rfl⟩)
                  go_ret
                  exact ⟨rfl, hfin⟩
        · have hq' : (m / 10 == 0) = false := by simpa using hq
          have hk := pow_pos m0 HM.out hq
          clear hq
          go_wp2_with fail
          go_roundw
          case rel => exact ⟨k, m / 10, rfl, rfl, hk, by omega, by omega, by omega, HM, harr.set _ (by omega), hbel.setCell (Nat.le_refl _) _⟩
          case measure => simp [intOf]

end Go.Proofs.Qxb6600143a.Digs
