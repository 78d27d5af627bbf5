/- Plain laws of seat b6603316aM: no Go here. -/
import Derived.Test.Qxb6603316aModsWb
namespace Go.Proofs.Qxb6603316aMods
set_option linter.unusedVariables false

/-- r is the first place of [a, m) at which P holds, or m. -/
def Fst (P : Nat → Prop) (a m r : Nat) : Prop := r ≤ m ∧ (∀ i, a ≤ i → i < r → ¬ P i) ∧ (r < m → P r ∧ a ≤ r)
def Non (P : Nat → Prop) (a k : Nat) : Prop := ∀ i, a ≤ i → i < k → ¬ P i
def P1 (t : Nat → Int) (j : Nat) : Prop := t j = 10
def P2 (t : Nat → Int) (j : Nat) : Prop := t j = 44 ∨ t j = 93 ∨ t j = 125
def P3 (t : Nat → Int) (j : Nat) : Prop := t j = 58 ∧ (t (j + 1) = 32 ∨ t (j + 1) = 10)
def P4 (t : Nat → Int) (j : Nat) : Prop := t j = 63 ∨ t j = 91 ∨ t j = 123
def P5 (t : Nat → Int) (j : Nat) : Prop := t j = 35 ∧ t (j - 1) = 32

theorem Non.start (P : Nat → Prop) (a : Nat) : Non P a a := fun i h1 h2 => by omega
theorem Non.next {P : Nat → Prop} {a k : Nat} (h : Non P a k) (hk : ¬ P k) : Non P a (k + 1) := fun i h1 h2 => by
  by_cases e : i = k
  · exact e ▸ hk
  · exact h i h1 (by omega)
theorem Non.hit {P : Nat → Prop} {a k m : Nat} (h : Non P a k) (hk : P k) (h1 : k < m) (h2 : a ≤ k) : Fst P a m k := ⟨by omega, h, fun _ => ⟨hk, h2⟩⟩
theorem Non.miss {P : Nat → Prop} {a m : Nat} (h : Non P a m) : Fst P a m m := ⟨Nat.le_refl _, h, fun h => absurd h (Nat.lt_irrefl _)⟩
theorem Non.past {P : Nat → Prop} {a k m : Nat} (h : Non P a k) (hk : m ≤ k) : Fst P a m m := ⟨Nat.le_refl _, fun i h1 h2 => h i h1 (by omega), fun h => absurd h (Nat.lt_irrefl _)⟩

/-- what is decided at the first stop m -/
def fin (t : Nat → Int) (p : Nat) (b : Bool) (m : Nat) : Bool × Nat :=
  if t m = 58 then (true, trimE t p m)
  else if t m = 44 ∨ t m = 93 ∨ t m = 125 ∨ t m = 10 then (if b then (false, p) else (true, trimE t p m))
  else (false, p)

theorem trimE_le (t : Nat → Int) (a b : Nat) : trimE t a b ≤ b := by
  induction b with
  | zero => exact Nat.le_refl _
  | succ b ih => simp only [trimE]; split <;> omega
theorem trimE_ge (t : Nat → Int) (a b : Nat) (h : a ≤ b) : a ≤ trimE t a b := by
  induction b with
  | zero => simpa [trimE] using h
  | succ b ih =>
    simp only [trimE]
    split
    · exact ih (by omega)
    · omega
theorem trimE_sp (t : Nat → Int) (a b : Nat) (h : a ≤ b) (hb : t b = 32) : trimE t a (b + 1) = trimE t a b := by simp only [trimE]; rw [if_pos ⟨by omega, hb⟩]
theorem trimE_no (t : Nat → Int) (a b : Nat) (hb : t b ≠ 32) : trimE t a (b + 1) = b + 1 := by simp only [trimE]; rw [if_neg (fun h => hb h.2)]
theorem trimE_self (t : Nat → Int) (a : Nat) : trimE t a a = a := by
  cases a with
  | zero => rfl
  | succ a => simp only [trimE]; rw [if_neg (by omega)]

theorem fin_ge {t : Nat → Int} {p m : Nat} {b : Bool} (h : p ≤ m) : p ≤ (fin t p b m).2 := by
  have := trimE_ge t p m h
  unfold fin
  split
  · exact this
  · split
    · split
      · exact Nat.le_refl _
      · exact this
    · exact Nat.le_refl _
theorem fin_le (t : Nat → Int) {p m : Nat} (b : Bool) (h : p ≤ m) : (fin t p b m).2 ≤ m := by
  have := trimE_le t p m
  unfold fin
  split
  · exact this
  · split
    · split
      · exact h
      · exact this
    · exact h

def Stop (t : Nat → Int) (p j : Nat) : Prop := P1 t j ∨ P2 t j ∨ P3 t j ∨ P4 t j ∨ (P5 t j ∧ p < j)
/-- m is the first stop from p on -/
def FirstStop (t : Nat → Int) (p n m : Nat) : Prop := p ≤ m ∧ m < n ∧ Stop t p m ∧ Non (Stop t p) p m

theorem FirstStop.uniq {t : Nat → Int} {p n m m' : Nat} (h : FirstStop t p n m) (h' : FirstStop t p n m') : m = m' := by
  rcases Nat.lt_trichotomy m m' with e | e | e
  · exact absurd h.2.2.1 (h'.2.2.2 m h.1 e)
  · exact e
  · exact absurd h'.2.2.1 (h.2.2.2 m' h'.1 e)

theorem firstStop_of {t : Nat → Int} {p n m1 m2 m3 m4 m5 : Nat} (hl : t (n - 1) = 10) (h1 : Fst (P1 t) p (n - 1) m1) (h2 : Fst (P2 t) p m1 m2) (h3 : Fst (P3 t) p m2 m3) (h4 : Fst (P4 t) p m3 m4) (h5 : Fst (P5 t) (p + 1) m4 m5)
    (hm5 : p ≤ m5) (hm5n : m5 < n) : FirstStop t p n m5 := by
  obtain ⟨a1, b1, c1⟩ := h1
  obtain ⟨a2, b2, c2⟩ := h2
  obtain ⟨a3, b3, c3⟩ := h3
  obtain ⟨a4, b4, c4⟩ := h4
  obtain ⟨a5, b5, c5⟩ := h5
  refine ⟨hm5, hm5n, ?_, ?_⟩
  · by_cases e5 : m5 < m4
    · exact .inr (.inr (.inr (.inr ⟨(c5 e5).1, by have := (c5 e5).2; omega⟩)))
    · obtain rfl : m5 = m4 := by omega
      by_cases e4 : m5 < m3
      · exact .inr (.inr (.inr (.inl (c4 e4).1)))
      · obtain rfl : m5 = m3 := by omega
        by_cases e3 : m5 < m2
        · exact .inr (.inr (.inl (c3 e3).1))
        · obtain rfl : m5 = m2 := by omega
          by_cases e2 : m5 < m1
          · exact .inr (.inl (c2 e2).1)
          · obtain rfl : m5 = m1 := by omega
            by_cases e1 : m5 < n - 1
            · exact .inl (c1 e1).1
            · obtain rfl : m5 = n - 1 := by omega
              exact .inl hl
  · intro i hi1 hi2 hs
    rcases hs with h | h | h | h | ⟨h, hh⟩
    · exact b1 i hi1 (by omega) h
    · exact b2 i hi1 (by omega) h
    · exact b3 i hi1 (by omega) h
    · exact b4 i hi1 (by omega) h
    · exact b5 i (by omega) (by omega) h

theorem start_ne {c d : Int} (h : startB c d = true) : c ≠ 63 ∧ c ≠ 58 ∧ c ≠ 44 ∧ c ≠ 91 ∧ c ≠ 93 ∧ c ≠ 123 ∧ c ≠ 125 ∧ c ≠ 35 ∧ c ≠ 32 ∧ c ≠ 10 := by
  unfold startB at h
  split at h
  · simp_all
  · simp at h; simp [h]

end Go.Proofs.Qxb6603316aMods
