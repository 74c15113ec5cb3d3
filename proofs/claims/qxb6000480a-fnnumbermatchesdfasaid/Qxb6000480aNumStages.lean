/-
  THE STAGES OF 'number' AGAINST THE DFA: no Go in sight.
-/
import Derived.Test.Qxb6000480aDfa
namespace Go.Proofs.Qxb6000480a.Dfa

theorem dig_iff (c : Int) : digI c = true ↔ 48 ≤ c ∧ c ≤ 57 := by simp [digI]
theorem dig_not (c : Int) : digI c = false ↔ ¬ (48 ≤ c ∧ c ≤ 57) := by
  rw [← dig_iff]; simp

/-- It stops in no accepting state. -/
def Bad (s : ByteArray) (off : Nat) : Prop := ∃ (st : Int) (j : Nat), F s 0 off = (st, j) ∧ acc st = false
/-- It stops at i in an accepting state. -/
def Good (s : ByteArray) (off i : Nat) : Prop := ∃ st : Int, F s 0 off = (st, i) ∧ acc st = true

/-- Behind the sign. -/
def P1 (s : ByteArray) (off i : Nat) : Prop :=
  i ≤ s.size ∧ ∃ st : Int, F s 0 off = F s st i ∧ (st = 1 ∨ (st = 0 ∧ ∀ h : i < s.size, (s[i].toNat : Int) ≠ 45))
/-- Behind the integer part. -/
def P2 (s : ByteArray) (off i : Nat) : Prop :=
  i ≤ s.size ∧ ∃ st : Int, F s 0 off = F s st i ∧ (st = 2 ∨ (st = 3 ∧ ∀ h : i < s.size, digI s[i].toNat = false))
/-- Behind the fraction. -/
def P3 (s : ByteArray) (off i : Nat) : Prop :=
  i ≤ s.size ∧ ∃ st : Int, F s 0 off = F s st i ∧ ((st = 2 ∧ ∀ h : i < s.size, (s[i].toNat : Int) ≠ 46) ∨
    (st = 3 ∧ ∀ h : i < s.size, digI s[i].toNat = false ∧ (s[i].toNat : Int) ≠ 46) ∨ (st = 5 ∧ ∀ h : i < s.size, digI s[i].toNat = false))
/-- Behind the exponent's sign. -/
def P4 (s : ByteArray) (off i : Nat) : Prop :=
  i ≤ s.size ∧ ∃ st : Int, F s 0 off = F s st i ∧ (st = 7 ∨ (st = 6 ∧ ∀ h : i < s.size, (s[i].toNat : Int) ≠ 43 ∧ (s[i].toNat : Int) ≠ 45))

/-- 'i < len(s) && p(s[i])' -/
def atB (p : Int → Bool) (s : ByteArray) (i : Nat) : Bool := if h : i < s.size then p s[i].toNat else false
def isDot (c : Int) : Bool := c == 46
def isSign (c : Int) : Bool := c == 43 || c == 45

theorem atB_lt {p : Int → Bool} {s : ByteArray} {i : Nat} (h : i < s.size) : atB p s i = p s[i].toNat := by simp [atB, h]
theorem atB_ge {p : Int → Bool} {s : ByteArray} {i : Nat} (h : ¬ i < s.size) : atB p s i = false := by simp [atB, h]
theorem atB_true {p : Int → Bool} {s : ByteArray} {i : Nat} (e : atB p s i = true) : ∃ h : i < s.size, p s[i].toNat = true := by
  by_cases h : i < s.size
  · exact ⟨h, (atB_lt h).symm.trans e⟩
  · rw [atB_ge h] at e; exact absurd e (by simp)
theorem atB_false {p : Int → Bool} {s : ByteArray} {i : Nat} (e : atB p s i = false) : ∀ h : i < s.size, p s[i].toNat = false := fun h => (atB_lt h).symm.trans e

theorem dot_true {c : Int} (h : isDot c = true) : c = 46 := by simpa [isDot] using h
theorem dot_false {c : Int} (h : isDot c = false) : ¬ c = 46 := by simpa [isDot] using h
theorem exp_true {c : Int} (h : expI c = true) : c = 101 ∨ c = 69 := by simpa [expI] using h
theorem exp_false {c : Int} (h : expI c = false) : ¬ (c = 101 ∨ c = 69) := by simpa [expI] using h
theorem sign_true {c : Int} (h : isSign c = true) : c = 43 ∨ c = 45 := by simpa [isSign] using h
theorem sign_false {c : Int} (h : isSign c = false) : ¬ (c = 43 ∨ c = 45) := by simpa [isSign] using h

variable {s : ByteArray} {off i j : Nat}

theorem p1_minus (h : off < s.size) (hc : (s[off].toNat : Int) = 45) : P1 s off (off + 1) :=
  ⟨by omega, 1, F_to h (by simp [stepI, hc]) (by omega), .inl rfl⟩

theorem p1_plain (h : off < s.size) (hc : ¬ (s[off].toNat : Int) = 45) : P1 s off off :=
  ⟨by omega, 0, rfl, .inr ⟨rfl, fun _ => hc⟩⟩

theorem p1_bad (p : P1 s off i) (hc : ∀ h : i < s.size, digI s[i].toNat = false) : Bad s off := by
  obtain ⟨hi, st, hF, hst⟩ := p
  by_cases h : i < s.size
  · have hd := hc h
    have hd' := (dig_not _).1 hd
    have h48 : ¬ (s[i].toNat : Int) = 48 := by omega
    rcases hst with rfl | ⟨rfl, hm⟩
    · exact ⟨1, i, hF.trans (F_stop h (by simp [stepI, hd, h48])), rfl⟩
    · exact ⟨0, i, hF.trans (F_stop h (by simp [stepI, hd, h48, hm h])), rfl⟩
  · refine ⟨st, i, hF.trans (F_end st (by omega)), ?_⟩
    rcases hst with rfl | ⟨rfl, _⟩ <;> rfl

theorem p1_zero (p : P1 s off i) (h : i < s.size) (hc : (s[i].toNat : Int) = 48) : P2 s off (i + 1) := by
  obtain ⟨hi, st, hF, hst⟩ := p
  refine ⟨by omega, 2, ?_, .inl rfl⟩
  rcases hst with rfl | ⟨rfl, hm⟩
  · exact hF.trans (F_to h (by simp [stepI, hc]) (by omega))
  · exact hF.trans (F_to h (by simp [stepI, hc]) (by omega))

theorem Skip.lt (k : Skip s i j) (h : i < s.size) (hd : digI s[i].toNat = true) : i < j := by
  rcases Nat.lt_or_ge i j with h1 | h1
  · exact h1
  · have e : j = i := by have := k.le; omega
    subst e
    have := k.non h
    rw [hd] at this
    exact absurd this (by simp)

theorem Skip.tail (k : Skip s i j) (h : i < j) : Skip s (i + 1) j := ⟨h, k.top, fun l hl a b => k.all l hl (by omega) b, k.non⟩

theorem p1_digits (p : P1 s off i) (h : i < s.size) (h48 : ¬ (s[i].toNat : Int) = 48) (hd : digI s[i].toNat = true) (k : Skip s i j) : P2 s off j := by
  obtain ⟨hi, st, hF, hst⟩ := p
  have hl := k.lt h hd
  refine ⟨k.top, 3, ?_, .inr ⟨rfl, k.non⟩⟩
  rw [hF, ← F_skip (by omega) st3 (k.tail hl)]
  have hd' := (dig_iff _).1 hd
  have h45 : ¬ (s[i].toNat : Int) = 45 := by omega
  rcases hst with rfl | ⟨rfl, hm⟩
  · exact F_to h (by simp [stepI, hd, h48]) (by omega)
  · exact F_to h (by simp [stepI, hd, h48, h45]) (by omega)

theorem p2_dot (p : P2 s off i) (h : i < s.size) (hc : (s[i].toNat : Int) = 46) : F s 0 off = F s 4 (i + 1) := by
  obtain ⟨hi, st, hF, hst⟩ := p
  have hn : digI 46 = false := rfl
  rcases hst with rfl | ⟨rfl, hm⟩
  · exact hF.trans (F_to h (by simp [stepI, hc]) (by omega))
  · exact hF.trans (F_to h (by simp [stepI, hc, hn]) (by omega))

theorem p2_bad (p : P2 s off i) (h : i < s.size) (hc : (s[i].toNat : Int) = 46) (k : Skip s (i + 1) (i + 1)) : Bad s off := by
  have hF := p2_dot p h hc
  by_cases h1 : i + 1 < s.size
  · exact ⟨4, i + 1, hF.trans (F_stop h1 (by simp [stepI, k.non h1])), rfl⟩
  · exact ⟨4, i + 1, hF.trans (F_end _ (by omega)), rfl⟩

theorem p2_frac (p : P2 s off i) (h : i < s.size) (hc : (s[i].toNat : Int) = 46) (k : Skip s (i + 1) j) (hj : j ≠ i + 1) : P3 s off j := by
  have hF := p2_dot p h hc
  have hl : i + 1 < j := by have := k.le; omega
  have hz : i + 1 < s.size := by have := k.top; omega
  refine ⟨k.top, 5, ?_, .inr (.inr ⟨rfl, k.non⟩)⟩
  rw [hF, ← F_skip (by omega) st5 (k.tail hl)]
  exact F_to hz (by simp [stepI, k.all (i + 1) hz (by omega) hl]) (by omega)

theorem p2_none (p : P2 s off i) (hc : ∀ h : i < s.size, ¬ (s[i].toNat : Int) = 46) : P3 s off i := by
  obtain ⟨hi, st, hF, hst⟩ := p
  refine ⟨hi, st, hF, ?_⟩
  rcases hst with h | ⟨h, hm⟩
  · exact .inl ⟨h, hc⟩
  · exact .inr (.inl ⟨h, fun g => ⟨hm g, hc g⟩⟩)

theorem p3_none (p : P3 s off i) (hc : ∀ h : i < s.size, ¬ ((s[i].toNat : Int) = 101 ∨ (s[i].toNat : Int) = 69)) : Good s off i := by
  obtain ⟨hi, st, hF, hst⟩ := p
  by_cases h : i < s.size
  · have he := hc h
    have hx : expI s[i].toNat = false := by
      simp only [expI, Bool.or_eq_false_iff, beq_eq_false_iff_ne]; omega
    rcases hst with ⟨rfl, hm⟩ | ⟨rfl, hm⟩ | ⟨rfl, hm⟩
    · exact ⟨2, hF.trans (F_stop h (by simp [stepI, hm h, hx])), rfl⟩
    · exact ⟨3, hF.trans (F_stop h (by simp [stepI, (hm h).1, (hm h).2, hx])), rfl⟩
    · exact ⟨5, hF.trans (F_stop h (by simp [stepI, hm h, hx])), rfl⟩
  · refine ⟨st, hF.trans (F_end st (by omega)), ?_⟩
    rcases hst with ⟨rfl, _⟩ | ⟨rfl, _⟩ | ⟨rfl, _⟩ <;> rfl

theorem p3_exp (p : P3 s off i) (h : i < s.size) (hc : (s[i].toNat : Int) = 101 ∨ (s[i].toNat : Int) = 69) : F s 0 off = F s 6 (i + 1) := by
  obtain ⟨hi, st, hF, hst⟩ := p
  have hx : expI s[i].toNat = true := by
    rcases hc with hc | hc <;> rw [hc] <;> rfl
  have hn : digI s[i].toNat = false := by
    rcases hc with hc | hc <;> rw [hc] <;> rfl
  have h46 : ¬ (s[i].toNat : Int) = 46 := by omega
  rcases hst with ⟨rfl, hm⟩ | ⟨rfl, hm⟩ | ⟨rfl, hm⟩
  · exact hF.trans (F_to h (by simp [stepI, h46, hx]) (by omega))
  · exact hF.trans (F_to h (by simp [stepI, hn, h46, hx]) (by omega))
  · exact hF.trans (F_to h (by simp [stepI, hn, hx]) (by omega))

theorem p4_sign (hF : F s 0 off = F s 6 i) (h : i < s.size) (hc : (s[i].toNat : Int) = 43 ∨ (s[i].toNat : Int) = 45) : P4 s off (i + 1) :=
  ⟨by omega, 7, hF.trans (F_to h (by rcases hc with hc | hc <;> simp [stepI, hc]) (by omega)), .inl rfl⟩

theorem p4_none (hF : F s 0 off = F s 6 i) (hi : i ≤ s.size) (hc : ∀ h : i < s.size, ¬ ((s[i].toNat : Int) = 43 ∨ (s[i].toNat : Int) = 45)) : P4 s off i :=
  ⟨hi, 6, hF, .inr ⟨rfl, fun h => by have := hc h; omega⟩⟩

theorem p4_bad (p : P4 s off i) (k : Skip s i i) : Bad s off := by
  obtain ⟨hi, st, hF, hst⟩ := p
  by_cases h : i < s.size
  · rcases hst with rfl | ⟨rfl, hm⟩
    · exact ⟨7, i, hF.trans (F_stop h (by simp [stepI, k.non h])), rfl⟩
    · exact ⟨6, i, hF.trans (F_stop h (by simp [stepI, k.non h, (hm h).1, (hm h).2])), rfl⟩
  · refine ⟨st, i, hF.trans (F_end st (by omega)), ?_⟩
    rcases hst with rfl | ⟨rfl, _⟩ <;> rfl

theorem p4_good (p : P4 s off i) (k : Skip s i j) (hj : j ≠ i) : Good s off j := by
  obtain ⟨hi, st, hF, hst⟩ := p
  have hl : i < j := by have := k.le; omega
  have hz : i < s.size := by have := k.top; omega
  have hd := k.all i hz (Nat.le_refl _) hl
  have hd' := (dig_iff _).1 hd
  have e1 : F s 0 off = F s 8 j := by
    rw [hF, ← F_skip (by omega) st8 (k.tail hl)]
    rcases hst with rfl | ⟨rfl, hm⟩
    · exact F_to hz (by simp [stepI, hd]) (by omega)
    · exact F_to hz (by simp [stepI, hd, (hm hz).1, (hm hz).2]) (by omega)
  refine ⟨8, e1.trans ?_, rfl⟩
  by_cases h : j < s.size
  · exact F_stop h (by simp [stepI, k.non h])
  · exact F_end _ (by omega)

end Go.Proofs.Qxb6000480a.Dfa
