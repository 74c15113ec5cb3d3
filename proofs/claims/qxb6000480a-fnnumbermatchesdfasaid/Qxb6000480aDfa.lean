/-
  THE PLAIN LAW's WORDS: the DFA of zzNumberStep run over a text from a place; no Go in sight.
-/
import Derived.KernelRfl
namespace Go.Proofs.Qxb6000480a.Dfa

def digI (c : Int) : Bool := decide (48 ≤ c) && decide (c ≤ 57)
def expI (c : Int) : Bool := c == 101 || c == 69

def stepI (st c : Int) : Int :=
  if (st == 0) = true then (if (c == 45) = true then 1 else if (c == 48) = true then 2 else if digI c = true then 3 else -1)
  else if (st == 1) = true then (if (c == 48) = true then 2 else if digI c = true then 3 else -1)
  else if (st == 2) = true then (if (c == 46) = true then 4 else if expI c = true then 6 else -1)
  else if (st == 3) = true then (if digI c = true then 3 else if (c == 46) = true then 4 else if expI c = true then 6 else -1)
  else if (st == 4) = true then (if digI c = true then 5 else -1)
  else if (st == 5) = true then (if digI c = true then 5 else if expI c = true then 6 else -1)
  else if (st == 6) = true then (if (c == 43 || c == 45) = true then 7 else if digI c = true then 8 else -1)
  else if (st == 7) = true then (if digI c = true then 8 else -1)
  else if (st == 8) = true then (if digI c = true then 8 else -1)
  else -1

theorem step_range (st c : Int) : -1 ≤ stepI st c ∧ stepI st c ≤ 8 := by
  unfold stepI
  repeat' split
  all_goals omega

def runL : Int → Nat → List UInt8 → Int × Nat
  | st, i, [] => (st, i)
  | st, i, c :: l => if stepI st c.toNat < 0 then (st, i) else runL (stepI st c.toNat) (i + 1) l

/-- Where the DFA stops that starts in st at i: the state, the place. -/
def F (s : ByteArray) (st : Int) (i : Nat) : Int × Nat := runL st i (s.data.toList.drop i)

theorem F_end {s : ByteArray} {i : Nat} (st : Int) (h : s.size ≤ i) : F s st i = (st, i) := by
  unfold F
  rw [List.drop_of_length_le (by simpa using h)]
  rfl

theorem drop_at {s : ByteArray} {i : Nat} (h : i < s.size) : s.data.toList.drop i = s[i] :: s.data.toList.drop (i + 1) := by
  rw [List.drop_eq_getElem_cons (by simpa using h)]
  rfl

theorem F_step {s : ByteArray} {st : Int} {i : Nat} (h : i < s.size) (hn : ¬ stepI st s[i].toNat < 0) : F s st i = F s (stepI st s[i].toNat) (i + 1) := by
  unfold F
  rw [drop_at h]
  show (if stepI st s[i].toNat < 0 then _ else _) = _
  rw [if_neg hn]

theorem F_to {s : ByteArray} {st : Int} {i : Nat} {st' : Int} (h : i < s.size) (e : stepI st s[i].toNat = st') (hn : 0 ≤ st') : F s st i = F s st' (i + 1) := by
  rw [F_step h (by omega), e]

theorem F_stop {s : ByteArray} {st : Int} {i : Nat} (h : i < s.size) (hn : stepI st s[i].toNat < 0) : F s st i = (st, i) := by
  unfold F
  rw [drop_at h]
  show (if stepI st s[i].toNat < 0 then _ else _) = _
  rw [if_pos hn]

/-- skipDigits from i comes to j. -/
structure Skip (s : ByteArray) (i j : Nat) : Prop where
  le : i ≤ j
  top : j ≤ s.size
  all : ∀ k (h : k < s.size), i ≤ k → k < j → digI s[k].toNat = true
  non : ∀ h : j < s.size, digI s[j].toNat = false

theorem F_skip {s : ByteArray} {st : Int} {i j : Nat} (h0 : 0 ≤ st) (hst : ∀ c, digI c = true → stepI st c = st) (h : Skip s i j) : F s st i = F s st j := by
  obtain ⟨h1, h2, h3, -⟩ := h
  obtain ⟨d, rfl⟩ : ∃ d, j = i + d := ⟨j - i, by omega⟩
  clear h1
  induction d with
  | zero => rfl
  | succ d ih =>
    rw [ih (by omega) (fun k h a b => h3 k h a (by omega))]
    have := hst _ (h3 (i + d) (by omega) (by omega) (by omega))
    rw [F_to (st' := st) (by omega) this h0]
    rfl

def acc (st : Int) : Bool := (st == 2) || (st == 3) || (st == 5) || (st == 8)

/-! ### The stages of 'number' -/
theorem st3 (c : Int) (h : digI c = true) : stepI 3 c = 3 := by simp [stepI, h]
theorem st5 (c : Int) (h : digI c = true) : stepI 5 c = 5 := by simp [stepI, h]
theorem st8 (c : Int) (h : digI c = true) : stepI 8 c = 8 := by simp [stepI, h]

end Go.Proofs.Qxb6000480a.Dfa
