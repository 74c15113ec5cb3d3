import Derived.Test.Qxb6600143aZHex
import Derived.OwnWalk
import Derived.Deep.Cut
namespace Go.Proofs.Qxb6600143a.Hex
open Go.ChangeShapes Go.WideShapes Go.ChangeAt Go.RowKit
set_option linter.unusedVariables false

theorem info5 : (Try.prog.info? 5).map (fun i => (i.zero, i.size, i.bytes)) = some (some (.int .u8 0), 1, 1) := by kernel_rfl

/-- What the law is told of a slice of bytes that came in (as the shell says it). -/
def Came (w : World) (a : Option Addr) (len cap : Nat) (zs : List Int) : Prop :=
  (a = none ∧ len = 0 ∧ cap = 0 ∧ zs = []) ∨
  ∃ x, a = some x ∧ len ≤ cap ∧ cap ≤ maxLen ∧ zs.length = cap ∧ (∀ i, i < zs.length → w.cell? (x.add i) = some (.int .u8 (zs.getD i 0))) ∧ ∀ n ∈ zs, (Lit.int .u8 n).wf = true

/-- .. and where there is an element it lies in a row of the heap's. -/
theorem Came.rd {w : World} {a : Option Addr} {len cap : Nat} {zs : List Int} (h : Came w a len cap zs) (h0 : 0 < len) :
    ∃ b off, a = some ⟨b, off, none⟩ ∧ b < w.heap.size ∧ ∀ i, i < len → w.cell? ⟨b, off + i, none⟩ = some (.int .u8 (zs.getD i 0)) := by
  rcases h with ⟨rfl, rfl, rfl, rfl⟩ | ⟨x, rfl, h1, h2, h3, h4, h5⟩
  · omega
  · obtain ⟨b, off, spot⟩ := x
    have g0 := h4 0 (by omega)
    have hspot : spot = none := by simpa [Addr.add] using World.cell?_spot g0
    subst hspot
    have hb : b < w.heap.size := by
      by_cases hlt : b < w.heap.size
      · exact hlt
      · exfalso
        simp [World.cell?, Addr.add] at g0
        rw [Array.getElem?_eq_none (by omega)] at g0
        simp at g0
    exact ⟨b, off, rfl, hb, fun i hi => by rw [← add_plain]; exact h4 i (by omega)⟩

set_option maxHeartbeats 400000 in
theorem bytes21 (u q : Int) (a c : Option Addr) (n n' m m' : Nat) (w : World) (h : n + m ≤ 1048576) :
    Calls Try.prog 21 #[.int .u16 u, .int .u8 q, .slice a n n', .slice c m m'] w fun e w' => e = .returned (.bool true) ∧ w' = w := by
  have h1 : ¬ (1048576 : Int) < (n : Int) := by omega
  have h2 : ¬ (1048576 : Int) < (m : Int) := by omega
  have h3 : ¬ (1048576 : Int) < (n : Int) + m := by omega
  go_enter Try.func21, Try.ntmps21
  go_wp2
  go_ret
  exact ⟨rfl, rfl⟩

set_option maxHeartbeats 400000 in
theorem bytes21_no (u q : Int) (a c : Option Addr) (n n' m m' : Nat) (w : World) (hn : n ≤ maxLen) (hm : m ≤ maxLen) (h : ¬ n + m ≤ 1048576) :
    Calls Try.prog 21 #[.int .u16 u, .int .u8 q, .slice a n n', .slice c m m'] w fun e w' => e = .returned (.bool false) ∧ w' = w := by
  unfold maxLen at hn hm
  by_cases h1 : (1048576 : Int) < (n : Int)
  · go_enter Try.func21, Try.ntmps21
    go_wp2
    go_ret
    exact ⟨rfl, rfl⟩
  · by_cases h2 : (1048576 : Int) < (m : Int)
    · go_enter Try.func21, Try.ntmps21
      go_wp2
      go_ret
      exact ⟨rfl, rfl⟩
    · have h3 : (1048576 : Int) < (n : Int) + m := by omega
      go_enter Try.func21, Try.ntmps21
      go_wp2
      go_ret
      exact ⟨rfl, rfl⟩

def hexd (d : Int) (up : Bool) : Int := if d < 10 then 48 + d else if up = true then 65 + d - 10 else 97 + d - 10
theorem hexv_hexd (d : Int) (up : Bool) (h0 : 0 ≤ d) (h1 : d ≤ 15) : hexv (hexd d up) = d := by
  unfold hexd hexv
  repeat' split
  all_goals omega

set_option maxHeartbeats 400000 in
theorem hexDigit22 (d : Int) (up : Bool) (w : World) (h0 : 0 ≤ d) (h1 : d ≤ 15) :
    Calls Try.prog 22 #[.int .i64 d, .bool up] w fun e w' => e = .returned (.int .u8 (hexd d up)) ∧ w' = w := by
  by_cases h : d < 10
  · have HX : Hid (hexd d up = 48 + d) := show hexd d up = 48 + d by simp [hexd, h]
    go_enter Try.func22, Try.ntmps22
    go_wp2
    go_ret
    exact ⟨by rw [HX.out]; rfl, rfl⟩
  · cases up
    · have HX : Hid (hexd d false = 97 + d - 10) := show hexd d false = 97 + d - 10 by simp [hexd, h]
      go_enter Try.func22, Try.ntmps22
      go_wp2
      go_ret
      exact ⟨by rw [HX.out]; rfl, rfl⟩
    · have HX : Hid (hexd d true = 65 + d - 10) := show hexd d true = 65 + d - 10 by simp [hexd, h]
      go_enter Try.func22, Try.ntmps22
      go_wp2
      go_ret
      exact ⟨by rw [HX.out]; rfl, rfl⟩

/-! ### The bytes that are gathered -/
structure OwnB (wr : World) (G k cap : Nat) (l : List Int) : Prop where
  len : l.length = k
  row : wr.ownsRow G 5 1 (.slice (some ⟨G, 0, none⟩) k cap) k (l.map (Value.int .u8))

theorem OwnB.start {wr : World} {G cap : Nat} (h : wr.ownsRow G 5 1 (.slice (some ⟨G, 0, none⟩) 0 cap) 0 []) : OwnB wr G 0 cap [] := ⟨rfl, h⟩

theorem OwnB.push {wr wx : World} {G k cap : Nat} {l : List Int} (h : OwnB wr G k cap l) (x : Int)
    (hr : wx.ownsRow G 5 1 (.slice (some ⟨G, 0, none⟩) (k + 1) cap) (k + 1) (l.map (Value.int .u8) ++ [.int .u8 x])) : OwnB wx G (k + 1) cap (l ++ [x]) :=
  ⟨by simp [h.len], by simpa using hr⟩

theorem OwnB.cell {wr : World} {G k cap : Nat} {l : List Int} (h : OwnB wr G k cap l) {j : Nat} (hj : j < k) : wr.cell? ⟨G, j, none⟩ = some (.int .u8 (l.getD j 0)) := by
  obtain ⟨h1, h2⟩ := h.row
  rcases h2 with ⟨h2, _⟩ | ⟨g, cap', cur, hv, hg, hh, hn, hm, hs, ht⟩
  · simp at h2
  · simp at hv
    obtain ⟨rfl, rfl⟩ := hv
    have hlen := h.len
    have hj' : j < l.length := by omega
    have e : (cur.toList.take (k * 1))[j]? = (l.map (Value.int .u8))[j]? := by rw [ht]
    rw [List.getElem?_take, if_pos (by omega)] at e
    simp [List.getElem?_eq_getElem hj'] at e
    simp [World.cell?, hh, e, List.getElem?_eq_getElem hj']

theorem OwnB.lt {wr : World} {G k cap : Nat} {l : List Int} (h : OwnB wr G k cap l) : G < wr.heap.size := by
  obtain ⟨h1, h2⟩ := h.row
  rcases h2 with ⟨h2, _⟩ | ⟨g, cap', cur, hv, hg, hh, hn, hm, hs, ht⟩
  · simp at h2
  · simp at hv
    obtain ⟨rfl, rfl⟩ := hv
    exact (Array.getElem?_eq_some_iff.1 hh).1

/-- The i-th hex digit of a 16-bit number. -/
def dg (u : Int) (i : Nat) : Int := match i with | 0 => u / 4096 % 16 | 1 => u / 256 % 16 | 2 => u / 16 % 16 | _ => u % 16

/-- From n on the first j bytes are u's digits, in some case. -/
def Dgs (u : Int) (n : Nat) (l : List Int) (j : Nat) : Prop := ∀ i, i < j → ∃ up, l.getD (n + i) 0 = hexd (dg u i) up

theorem Dgs.push {u : Int} {n j : Nat} {l : List Int} (h : Dgs u n l j) (hl : l.length = n + j) (up : Bool) : Dgs u n (l ++ [hexd (dg u j) up]) (j + 1) := by
  intro i hi
  by_cases e : i = j
  · subst e
    exact ⟨up, by simp [List.getD, hl]⟩
  · obtain ⟨up', h'⟩ := h i (by omega)
    exact ⟨up', by rw [← h']; simp [List.getD, List.getElem?_append_left (by omega : n + i < l.length)]⟩

theorem Dgs.more {u : Int} {n j : Nat} {l : List Int} (h : Dgs u n l j) (hl : n + j ≤ l.length) (x : Int) : Dgs u n (l ++ [x]) j := by
  intro i hi
  obtain ⟨up', h'⟩ := h i hi
  exact ⟨up', by rw [← h']; simp [List.getD, List.getElem?_append_left (by omega : n + i < l.length)]⟩

theorem dg_range (u : Int) (i : Nat) : 0 ≤ dg u i ∧ dg u i ≤ 15 := by
  unfold dg
  split <;> omega

theorem Dgs.hex {u : Int} {n : Nat} {l : List Int} (h : Dgs u n l 4) : AllHex (fun i => l.getD (n + i) 0) 4 := by
  intro i hi
  obtain ⟨up, e⟩ := h i hi
  show 0 ≤ hexv (l.getD (n + i) 0)
  have := dg_range u i
  rw [e, hexv_hexd _ _ (by omega) (by omega)]
  omega

theorem Dgs.value {u : Int} {n : Nat} {l : List Int} (h : Dgs u n l 4) (h0 : 0 ≤ u) (h1 : u ≤ 65535) : val (fun i => l.getD (n + i) 0) 4 = u := by
  have v : ∀ i, i < 4 → hexv (l.getD (n + i) 0) = dg u i := fun i hi => by
    obtain ⟨up, e⟩ := h i hi
    have := dg_range u i
    rw [e, hexv_hexd _ _ (by omega) (by omega)]
  show (((0 * 16 + hexv (l.getD (n + 0) 0)) * 16 + hexv (l.getD (n + 1) 0)) * 16 + hexv (l.getD (n + 2) 0)) * 16 + hexv (l.getD (n + 3) 0) = u
  rw [v 0 (by omega), v 1 (by omega), v 2 (by omega), v 3 (by omega)]
  simp only [dg]
  omega

set_option maxHeartbeats 4000000 in
theorem round9_main (u q : Int) (a c : Option Addr) (n n' m m' : Nat) (z z' : List Int) (w : World) (u0 : 0 ≤ u) (u1 : u ≤ 65535) (q0 : 0 ≤ q) (q1 : q ≤ 255) (hs : n + m ≤ 1048576) (hn : n ≤ 524288) (hm : m ≤ 524288)
    (ha : Came w a n n' z) (hc : Came w c m m' z') :
    Calls Try.prog 9 #[.int .u16 u, .int .u8 q, .slice a n n', .slice c m m'] w fun e w' => e = .returned (.bool true) ∧ Below w.heap.size w w' := by
  have h1 : ¬ (524288 : Int) < (n : Int) := by omega
  have h2 : ¬ (524288 : Int) < (m : Int) := by omega
  have HAc : Hid (Came w a n n' z) := ha
  have HCc : Hid (Came w c m m' z') := hc
  clear ha hc
  obtain ⟨y0, hy, hy0, hy1, hy2⟩ := info_parts info5
  go_enter Try.func9, Try.ntmps9
  go_wp2_with fail
  refine (bytes21 _ _ _ _ _ _ _ _ _ hs).mono ?_
  rintro e w1 ⟨rfl, rfl⟩
  go_wp2_with (at_make; refine wpList_make_own _ rfl _ _ 25 rfl w1.heap.size 5 y0 (.int .u8 0) 1 Try.underlying25 hy hy0 hy1 _ _ _ (n + 4 + m) rfl rfl (by omega) ?b2 ?b3 (Nat.le_refl _) ?_)
  case b2 => rw [hy2]; omega
  case b3 => unfold maxLen; omega
  intro w0 hown0 hgrow0
  have hbel0 : Below w1.heap.size w1 w0 := (Below.refl _ _).grown hgrow0 (Nat.le_refl _) (fun k e => by cases e)
  have hO := OwnB.start hown0
  clear hown0 hgrow0
  go_wp2_with fail
  go_loopw [9, 10] (fun v x w2 => ∃ (k : Nat) (l : List Int), x = .int .i64 k ∧ k ≤ n ∧ v = .slice (some ⟨w1.heap.size, 0, none⟩) k (n + 4 + m) ∧ OwnB w2 w1.heap.size k (n + 4 + m) l ∧ Below w1.heap.size w1 w2)
    (fun _ x _ => n - (intOf x).toNat)
  case atStart => exact ⟨0, [], rfl, Nat.zero_le _, rfl, hO, hbel0⟩
  case round =>
    clear hO hbel0
    obtain ⟨k, l, rfl, hk, rfl, hO, hbl⟩ := hrel
    by_cases hlt : k < n
    · obtain ⟨b, off, rfl, hb, hcell⟩ := HAc.out.rd (by omega)
      have hx2 : wr.cell? ⟨b, off + k, none⟩ = some (.int .u8 (z.getD k 0)) := (hbl.cell (by exact hb)).trans (hcell k hlt)
      clear hcell
      generalize z.getD k 0 = x at *
      go_wp2_with (at_builtin; refine wpList_append_fits _ rfl _ _ 25 rfl w1.heap.size 5 y0 1 Try.underlying25 hy hy1 w1.heap.size k (n + 4 + m) _ rfl (hO.row.alloc _) ⟨wr.heap.size, 0, none⟩ 1 1 [.int .u8 x] rfl rfl ?c1 ?c2 ?c3 ?_)
      case c1 => exact cell_one_new _ _ _
      case c2 => intro u hu; simp at hu; subst hu; rfl
      case c3 => omega
      intro w3 hown3 hgrow3
      have hO3 := hO.push x hown3
      have hbl3 : Below w1.heap.size w1 w3 := (hbl.alloc hbl.size _).grown hgrow3 (by have := hbl.size; simp; omega) (fun k e => by simp at e; omega)
      clear hO hbl hown3 hgrow3 hx2
      go_wp2_with fail
      go_roundw
      case rel => exact ⟨k + 1, _, by go_num, by omega, rfl, hO3, hbl3⟩
      case measure => simp [intOf]; omega
    · have : k = n := by omega
      subst this
      clear HAc
      have h15 := and15
      go_wp2_with fail
      go_loopw [9, 11] (fun v x w2 => ∃ (j d : Nat) (l : List Int), x = .int .i64 j ∧ j ≤ 4 ∧ Hid (d = k + j) ∧ v = .slice (some ⟨w1.heap.size, 0, none⟩) d (k + 4 + m) ∧ OwnB w2 w1.heap.size d (k + 4 + m) l ∧ Hid (Dgs u k l j) ∧ Below w1.heap.size w1 w2)
        (fun _ x _ => 4 - (intOf x).toNat)
      case atStart => exact ⟨0, k, l, rfl, by omega, rfl, rfl, hO, fun i hi => by omega, hbl⟩
      case round =>
        clear hO hbl
        obtain ⟨j, d, l, rfl, hj, hd, rfl, hO, HD, hbl⟩ := hrel
        by_cases hlt : j < 4
        · have hj4 : j = 0 ∨ j = 1 ∨ j = 2 ∨ j = 3 := by omega
          have hdc : d + 1 ≤ k + 4 + m := by have := hd.out; omega
          have HP : Hid (∀ up, Dgs u k (l ++ [hexd (dg u j) up]) (j + 1)) := fun up => HD.out.push (by rw [hO.len]; exact hd.out) up
          have hd' : Hid (d + 1 = k + (j + 1)) := show d + 1 = k + (j + 1) by have := hd.out; omega
          clear hj hlt HD hd
          rcases hj4 with rfl | rfl | rfl | rfl
          all_goals
            go_wp2_with fail
            refine (hexDigit22 _ _ _ (by omega) (by omega)).mono ?_
            rintro e w2 ⟨rfl, rfl⟩
            go_wp2_with (at_builtin; refine wpList_append_fits _ rfl _ _ 25 rfl w1.heap.size 5 y0 1 Try.underlying25 hy hy1 w1.heap.size d (k + 4 + m) _ rfl (hO.row.alloc _) ⟨w2.heap.size, 0, none⟩ 1 1 [.int .u8 (hexd _ _)] rfl rfl (cell_one_new _ _ _) (by intro u hu; simp at hu; subst hu; rfl) hdc ?_; intro w3 hown3 hgrow3)
            have hO3 := hO.push _ hown3
            have hbl3 : Below w1.heap.size w1 w3 := (hbl.alloc hbl.size _).grown hgrow3 (by have := hbl.size; simp; omega) (fun k e => by simp at e; omega)
            clear hO hbl hown3 hgrow3
            go_wp2_with fail
            go_roundw
            case rel => exact ⟨_ + 1, d + 1, _, by go_num, by omega, hd', rfl, hO3, HP.out _, hbl3⟩
            case measure => simp [intOf]
        · have hj4 : j = 4 := by omega
          subst hj4
          clear hj hlt h15
          go_wp2_with fail
          go_loopw [9, 14] (fun v x w2 => ∃ (j d : Nat) (l : List Int), x = .int .i64 j ∧ j ≤ m ∧ Hid (d = k + 4 + j) ∧ v = .slice (some ⟨w1.heap.size, 0, none⟩) d (k + 4 + m) ∧ OwnB w2 w1.heap.size d (k + 4 + m) l ∧ Hid (Dgs u k l 4) ∧ Below w1.heap.size w1 w2)
            (fun _ x _ => m - (intOf x).toNat)
          case atStart => exact ⟨0, d, l, rfl, Nat.zero_le _, hd, rfl, hO, HD, hbl⟩
          case round =>
            clear hO hbl HD hd
            obtain ⟨j, d, l, rfl, hj, hd, rfl, hO, HD, hbl⟩ := hrel
            by_cases hlt : j < m
            · obtain ⟨b, off, rfl, hb, hcell⟩ := HCc.out.rd (by omega)
              have hx2 : wr.cell? ⟨b, off + j, none⟩ = some (.int .u8 (z'.getD j 0)) := (hbl.cell (by exact hb)).trans (hcell j hlt)
              clear hcell
              generalize z'.getD j 0 = x at *
              have hdc : d + 1 ≤ k + 4 + m := by have := hd.out; omega
              go_wp2_with (at_builtin; refine wpList_append_fits _ rfl _ _ 25 rfl w1.heap.size 5 y0 1 Try.underlying25 hy hy1 w1.heap.size d (k + 4 + m) _ rfl (hO.row.alloc _) ⟨wr.heap.size, 0, none⟩ 1 1 [.int .u8 x] rfl rfl (cell_one_new _ _ _) (by intro u hu; simp at hu; subst hu; rfl) hdc ?_; intro w3 hown3 hgrow3)
              have hO3 := hO.push x hown3
              have HD3 : Hid (Dgs u k (l ++ [x]) 4) := HD.out.more (by rw [hO.len]; have := hd.out; omega) x
              have hd3 : Hid (d + 1 = k + 4 + (j + 1)) := show d + 1 = k + 4 + (j + 1) by have := hd.out; omega
              have hbl3 : Below w1.heap.size w1 w3 := (hbl.alloc hbl.size _).grown hgrow3 (by have := hbl.size; simp; omega) (fun k e => by simp at e; omega)
              clear hO hbl hown3 hgrow3 hx2 HD hd
              go_wp2_with fail
              go_roundw
              case rel => exact ⟨_, _, _, _, _, _, _, _, _, _, _, _, _, _, _, ⟨j + 1, d + 1, _, by go_num, by omega, hd3, rfl, hO3, HD3, hbl3⟩, rfl⟩
              case measure => simp [intOf]; omega
            · have hjm : j = m := by omega
              have hdk : k + 4 ≤ d ∧ d ≤ k + 4 + m := by have := hd.out; omega
              clear hd HCc
              go_wp2_with fail
              refine (zz_long w1.heap.size 0 d (k + 4 + m) k (fun i => l.getD (k + i) 0) _ (by omega) (by omega) (by omega) (by omega) hO.lt (fun i hi => by rw [Nat.zero_add]; exact hO.cell (by omega))).mono ?_
              rintro e w4 ⟨⟨_, rfl⟩ | ⟨hno, _⟩, hb4⟩
              · have hv : (val (fun i => l.getD (k + i) 0) 4 == u) = true := by rw [HD.out.value u0 u1]; simp
                have hfin : Below w1.heap.size w1 w4 := hbl.trans (hb4.mono hbl.size)
                generalize val (fun i => l.getD (k + i) 0) 4 = got at *
                clear hO hbl hb4 HD
                go_wp2_with fail
                go_ret
                exact ⟨rfl, hfin⟩
              · exact absurd HD.out.hex hno

set_option maxHeartbeats 400000 in
theorem round9 (u q : Int) (a c : Option Addr) (n n' m m' : Nat) (z z' : List Int) (w : World) (u0 : 0 ≤ u) (u1 : u ≤ 65535) (q0 : 0 ≤ q) (q1 : q ≤ 255)
    (ha : Came w a n n' z) (hc : Came w c m m' z') :
    Calls Try.prog 9 #[.int .u16 u, .int .u8 q, .slice a n n', .slice c m m'] w fun e w' => e = .returned (.bool true) ∧ Below w.heap.size w w' := by
  have top : ∀ {w : World} {a : Option Addr} {len cap : Nat} {zs : List Int}, Came w a len cap zs → len ≤ maxLen := by
    intro w a len cap zs h
    rcases h with ⟨_, rfl, _, _⟩ | ⟨x, _, h1, h2, _⟩
    · exact Nat.zero_le _
    · omega
  by_cases hs : n + m ≤ 1048576
  · by_cases h1 : (524288 : Int) < (n : Int)
    · clear top
      go_enter Try.func9, Try.ntmps9
      go_wp2_with (go_at_call 21; refine (bytes21 _ _ _ _ _ _ _ _ _ hs).mono ?_; rintro e w' ⟨rfl, rfl⟩)
      go_ret
      exact ⟨rfl, Below.refl _ _⟩
    · by_cases h2 : (524288 : Int) < (m : Int)
      · clear top
        go_enter Try.func9, Try.ntmps9
        go_wp2_with (go_at_call 21; refine (bytes21 _ _ _ _ _ _ _ _ _ hs).mono ?_; rintro e w' ⟨rfl, rfl⟩)
        go_ret
        exact ⟨rfl, Below.refl _ _⟩
      · exact round9_main u q a c n n' m m' z z' w u0 u1 q0 q1 hs (by omega) (by omega) ha hc
  · have hn := top ha
    have hm := top hc
    clear top
    go_enter Try.func9, Try.ntmps9
    go_wp2_with (go_at_call 21; refine (bytes21_no _ _ _ _ _ _ _ _ _ hn hm hs).mono ?_; rintro e w' ⟨rfl, rfl⟩)
    go_ret
    exact ⟨rfl, Below.refl _ _⟩

end Go.Proofs.Qxb6600143a.Hex
