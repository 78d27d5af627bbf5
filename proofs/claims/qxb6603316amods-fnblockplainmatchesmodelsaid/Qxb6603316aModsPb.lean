/- Plain laws of the block scalar: no Go here. -/
import Derived.Test.Qxb6603316aModsPl
namespace Go.Proofs.Qxb6603316aMods
set_option linter.unusedVariables false

theorem Fst.uniq {P : Nat → Prop} {a m r r' : Nat} (ha : a ≤ m) (h : Fst P a m r) (h' : Fst P a m r') : r = r' := by
  obtain ⟨h1, h2, h3⟩ := h
  obtain ⟨k1, k2, k3⟩ := h'
  rcases Nat.lt_trichotomy r r' with e | e | e
  · exact absurd (h3 (by omega)).1 (k2 r (h3 (by omega)).2 e)
  · exact e
  · exact absurd (k3 (by omega)).1 (h2 r' (k3 (by omega)).2 e)

/-- the first place from i on, at most f further, at which P holds -/
def firstF (P : Nat → Bool) : Nat → Nat → Nat
  | 0, i => i
  | f + 1, i => if P i then i else firstF P f (i + 1)

theorem firstF_spec (P : Nat → Bool) : ∀ (f i : Nat), i ≤ firstF P f i ∧ firstF P f i ≤ i + f ∧ (∀ k, i ≤ k → k < firstF P f i → P k = false) ∧ (firstF P f i < i + f → P (firstF P f i) = true)
  | 0, i => ⟨Nat.le_refl _, Nat.le_refl _, fun k h1 h2 => by simp only [firstF] at h2; omega, fun h => by simp only [firstF] at h; omega⟩
  | f + 1, i => by
    simp only [firstF]
    by_cases hp : P i = true
    · rw [if_pos hp]
      exact ⟨Nat.le_refl _, by omega, fun k h1 h2 => by omega, fun _ => hp⟩
    · rw [if_neg hp]
      obtain ⟨h1, h2, h3, h4⟩ := firstF_spec P f (i + 1)
      refine ⟨by omega, by omega, fun k hk1 hk2 => ?_, fun h => h4 (by omega)⟩
      by_cases e : k = i
      · subst e; simpa using hp
      · exact h3 k (by omega) hk2

def stopB (t : Nat → Int) (a i : Nat) : Bool := decide (t i = 10 ∨ (t i = 35 ∧ a < i ∧ t (i - 1) = 32))
/-- where the piece that starts at a stops -/
def stopOf (t : Nat → Int) (n a : Nat) : Nat := firstF (stopB t a) (n - 1 - a) a
def PS (t : Nat → Int) (a i : Nat) : Prop := t i = 10 ∨ (t i = 35 ∧ a < i ∧ t (i - 1) = 32)

theorem stopOf_fst (t : Nat → Int) {n a : Nat} (ha : a < n) : Fst (PS t a) a (n - 1) (stopOf t n a) := by
  obtain ⟨h1, h2, h3, h4⟩ := firstF_spec (stopB t a) (n - 1 - a) a
  exact ⟨by unfold stopOf; omega, fun i hi1 hi2 hp => by have := h3 i hi1 hi2; simp [stopB, PS] at this hp; omega, fun h => ⟨by have := h4 (by unfold stopOf at h; omega); simpa [stopB, PS, stopOf] using this, h1⟩⟩
theorem stopOf_ge (t : Nat → Int) (n a : Nat) : a ≤ stopOf t n a := (firstF_spec (stopB t a) (n - 1 - a) a).1
theorem stopOf_lt (t : Nat → Int) {n a : Nat} (ha : a < n) : stopOf t n a < n := by
  have := (firstF_spec (stopB t a) (n - 1 - a) a).2.1
  unfold stopOf; omega
theorem stopOf_ps (t : Nat → Int) {n a : Nat} (ha : a < n) (hl : t (n - 1) = 10) : PS t a (stopOf t n a) := by
  by_cases h : stopOf t n a < n - 1
  · exact ((stopOf_fst t ha).2.2 h).1
  · have : stopOf t n a = n - 1 := by have := stopOf_lt t ha; omega
    rw [this]; exact .inl hl

def p3B (t : Nat → Int) (i : Nat) : Bool := decide (t i = 58 ∧ (t (i + 1) = 32 ∨ t (i + 1) = 10))
/-- does a colon that ends a plain scalar stand in the piece that starts at a? -/
def colonB (t : Nat → Int) (n a : Nat) : Bool := decide (firstF (p3B t) (stopOf t n a - a) a < stopOf t n a)

theorem colon_no {t : Nat → Int} {n a : Nat} (h : Non (P3 t) a (stopOf t n a)) : colonB t n a = false := by
  obtain ⟨h1, h2, h3, h4⟩ := firstF_spec (p3B t) (stopOf t n a - a) a
  have := stopOf_ge t n a
  simp only [colonB, decide_eq_false_iff_not]
  intro hlt
  have hp := h4 (by omega)
  exact h _ h1 hlt (by simpa [p3B, P3] using hp)
theorem colon_yes {t : Nat → Int} {n a k : Nat} (h1 : a ≤ k) (h2 : k < stopOf t n a) (hk : P3 t k) : colonB t n a = true := by
  obtain ⟨g1, g2, g3, g4⟩ := firstF_spec (p3B t) (stopOf t n a - a) a
  simp only [colonB, decide_eq_true_eq]
  refine Nat.lt_of_not_le fun hle => ?_
  have := g3 k h1 (by omega)
  simp [p3B] at this
  simp [P3] at hk
  omega

/-- where the spaces that open [a, e) end -/
def ledE (t : Nat → Int) (a e : Nat) : Nat := firstF (fun i => decide (t i ≠ 32)) (e - a) a
theorem ledE_spec (t : Nat → Int) {a e : Nat} (h : a ≤ e) : a ≤ ledE t a e ∧ ledE t a e ≤ e ∧ (∀ i, a ≤ i → i < ledE t a e → t i = 32) ∧ (ledE t a e < e → t (ledE t a e) ≠ 32) := by
  obtain ⟨h1, h2, h3, h4⟩ := firstF_spec (fun i => decide (t i ≠ 32)) (e - a) a
  exact ⟨h1, by unfold ledE; omega, fun i i1 i2 => by simpa using h3 i i1 i2, fun hh => by have := h4 (by unfold ledE at hh; omega); simpa [ledE] using this⟩

/-- the lines from i on, the first of them begun at a -/
def linesF (t : Nat → Int) : Nat → Nat → Nat → List (Nat × Nat)
  | 0, _, _ => []
  | f + 1, i, a => if t i = 10 then (a, i) :: linesF t f (i + 1) (i + 1) else linesF t f (i + 1) a

def IsLines (t : Nat → Int) (n : Nat) : Nat → List (Nat × Nat) → Prop
  | a, [] => a = n
  | a, (s, e) :: rest => s = a ∧ a ≤ e ∧ e < n ∧ t e = 10 ∧ Non (P1 t) a e ∧ IsLines t n (e + 1) rest

theorem linesF_is {t : Nat → Int} {n : Nat} (hl : t (n - 1) = 10) : ∀ (f i a : Nat), i + f = n → a ≤ i → Non (P1 t) a i → (a = i ∨ i < n) → IsLines t n a (linesF t f i a)
  | 0, i, a, h, ha, hnon, hx => by simp only [linesF, IsLines]; omega
  | f + 1, i, a, h, ha, hnon, hx => by
    simp only [linesF]
    split
    · rename_i h10
      exact ⟨rfl, ha, by omega, h10, hnon, linesF_is hl f (i + 1) (i + 1) (by omega) (Nat.le_refl _) (Non.start _ _) (.inl rfl)⟩
    · rename_i h10
      refine linesF_is hl f (i + 1) a (by omega) (by omega) (hnon.next h10) (.inr ?_)
      have : i ≠ n - 1 := by rintro rfl; exact h10 hl
      omega

theorem linesF_len (t : Nat → Int) : ∀ (f i a : Nat), (linesF t f i a).length ≤ f
  | 0, i, a => Nat.le_refl _
  | f + 1, i, a => by
    simp only [linesF]
    split
    · have := linesF_len t f (i + 1) (i + 1); simp only [List.length_cons]; omega
    · have := linesF_len t f (i + 1) a; omega

/-- the blank run behind a line break: where the next line's text starts, where that line starts, how many line breaks were passed -/
def skipF (t : Nat → Int) : Nat → Nat → Nat → Nat → Nat × Nat × Nat
  | 0, l, nx, br => (l, nx, br)
  | f + 1, l, nx, br => if t l = 10 then skipF t f (l + 1) (l + 1) (br + 1) else if t l = 32 then skipF t f (l + 1) nx br else (l, nx, br)

theorem skipF_spec (t : Nat → Int) : ∀ (f l nx br : Nat), nx ≤ l → l ≤ (skipF t f l nx br).1 ∧ (skipF t f l nx br).1 ≤ l + f ∧ nx ≤ (skipF t f l nx br).2.1 ∧ (skipF t f l nx br).2.1 ≤ (skipF t f l nx br).1 ∧
    br ≤ (skipF t f l nx br).2.2 ∧ (skipF t f l nx br).2.2 ≤ br + ((skipF t f l nx br).1 - l) ∧ ((skipF t f l nx br).1 < l + f → t (skipF t f l nx br).1 ≠ 10 ∧ t (skipF t f l nx br).1 ≠ 32)
  | 0, l, nx, br, h => by simp only [skipF]; omega
  | f + 1, l, nx, br, h => by
    simp only [skipF]
    split
    · have := skipF_spec t f (l + 1) (l + 1) (br + 1) (Nat.le_refl _)
      refine ⟨by omega, by omega, by omega, by omega, by omega, by omega, fun h => this.2.2.2.2.2.2 (by omega)⟩
    · split
      · have := skipF_spec t f (l + 1) nx br (by omega)
        refine ⟨by omega, by omega, by omega, by omega, by omega, by omega, fun h => this.2.2.2.2.2.2 (by omega)⟩
      · simp only []
        exact ⟨by omega, by omega, by omega, by omega, by omega, by omega, fun _ => ⟨by assumption, by assumption⟩⟩

/-- behind the line break at e: the next line that is taken, and the blank lines between -/
def nextOf (t : Nat → Int) (n : Nat) (col : Int) (e : Nat) : Option (Nat × Nat) :=
  let r := skipF t (n - (e + 1)) (e + 1) (e + 1) 0
  if r.1 = n ∨ (r.1 : Int) - (r.2.1 : Int) ≤ col ∨ t r.1 = 35 then none else some (r.1, r.2.2)

def sub (t : Nat → Int) (a b : Nat) : List Int := (List.range (b - a)).map fun i => t (a + i)
def sep (br : Nat) : List Int := if br = 0 then [32] else List.replicate br 10
/-- the end of the piece that starts at a, its trailing spaces off -/
def cutOf (t : Nat → Int) (n a : Nat) : Nat := trimE t a (stopOf t n a)

/-- the scanner's rounds: (taken, where it ends, what is appended, more than one line) -/
def loopR (t : Nat → Int) (n : Nat) (col : Int) (p : Nat) : Nat → Nat → List Int → Bool → Bool × Nat × List Int × Bool
  | 0, a, acc, m => (true, cutOf t n a, acc, m)
  | f + 1, a, acc, m =>
    if t (stopOf t n a) = 10 then
      match nextOf t n col (stopOf t n a) with
      | none => (true, cutOf t n a, acc, m)
      | some (a', br) =>
        if colonB t n a' then (false, p, (if m then acc else sub t p (cutOf t n a)) ++ sep br, true)
        else loopR t n col p f a' (((if m then acc else sub t p (cutOf t n a)) ++ sep br) ++ sub t a' (cutOf t n a')) true
    else (true, cutOf t n a, acc, m)

/-- the lines that the model selects behind the piece at a -/
def chainR (t : Nat → Int) (n : Nat) (col : Int) : Nat → Nat → List (Nat × Nat)
  | 0, _ => []
  | f + 1, a =>
    if t (stopOf t n a) = 10 then
      match nextOf t n col (stopOf t n a) with
      | none => []
      | some (a', br) => (a', br) :: chainR t n col f a'
    else []

/-- the model's folding of what it selected -/
def foldC (t : Nat → Int) (n p : Nat) : List (Nat × Nat) → Nat → List Int → Bool → Bool × Nat × List Int × Bool
  | [], cut, acc, m => (true, cut, acc, m)
  | (a', br) :: rest, cut, acc, m =>
    if colonB t n a' then (false, p, (if m then acc else sub t p cut) ++ sep br, true)
    else foldC t n p rest (cutOf t n a') (((if m then acc else sub t p cut) ++ sep br) ++ sub t a' (cutOf t n a')) true

theorem loop_fold (t : Nat → Int) (n : Nat) (col : Int) (p : Nat) : ∀ (f a : Nat) (acc : List Int) (m : Bool), loopR t n col p f a acc m = foldC t n p (chainR t n col f a) (cutOf t n a) acc m
  | 0, a, acc, m => rfl
  | f + 1, a, acc, m => by
    simp only [loopR, chainR]
    split
    · cases h : nextOf t n col (stopOf t n a) with
      | none => rfl
      | some q =>
        obtain ⟨a', br⟩ := q
        simp only [foldC]
        split
        · rfl
        · exact loop_fold t n col p f a' _ true
    · rfl

theorem nextOf_some {t : Nat → Int} {n : Nat} {col : Int} {e a' br : Nat} (he : e < n) (h : nextOf t n col e = some (a', br)) : e < a' ∧ a' < n ∧ t a' ≠ 32 ∧ t a' ≠ 10 ∧ br + e + 1 ≤ a' := by
  unfold nextOf at h
  have hs := skipF_spec t (n - (e + 1)) (e + 1) (e + 1) 0 (Nat.le_refl _)
  simp only [] at h
  split at h
  · cases h
  · rename_i hc
    simp only [Option.some.injEq, Prod.mk.injEq] at h
    obtain ⟨h1, h2⟩ := h
    rw [h1] at hs hc
    rw [h2] at hs
    have := hs.2.2.2.2.2.2 (by omega)
    exact ⟨by omega, by omega, this.2, this.1, by omega⟩

theorem nextOf_none {t : Nat → Int} {n : Nat} {col : Int} {e l nx br : Nat} (hr : skipF t (n - (e + 1)) (e + 1) (e + 1) 0 = (l, nx, br)) (h : l = n ∨ (l : Int) - (nx : Int) ≤ col ∨ t l = 35) : nextOf t n col e = none := by
  unfold nextOf
  rw [hr]
  exact if_pos h
theorem nextOf_next {t : Nat → Int} {n : Nat} {col : Int} {e l nx br : Nat} (hr : skipF t (n - (e + 1)) (e + 1) (e + 1) 0 = (l, nx, br)) (h : ¬ (l = n ∨ (l : Int) - (nx : Int) ≤ col ∨ t l = 35)) : nextOf t n col e = some (l, br) := by
  unfold nextOf
  rw [hr]
  exact if_neg h
section
variable {t : Nat → Int} {n : Nat} {col : Int} {p f a a' br : Nat} {acc : List Int} {m : Bool}
theorem loopR_end (h : t (stopOf t n a) ≠ 10) : loopR t n col p (f + 1) a acc m = (true, cutOf t n a, acc, m) := by
  simp only [loopR]; rw [if_neg h]
theorem loopR_none (h : t (stopOf t n a) = 10) (hx : nextOf t n col (stopOf t n a) = none) : loopR t n col p (f + 1) a acc m = (true, cutOf t n a, acc, m) := by
  simp only [loopR]; rw [if_pos h, hx]
theorem loopR_colon (h : t (stopOf t n a) = 10) (hx : nextOf t n col (stopOf t n a) = some (a', br)) (hc : colonB t n a' = true) :
    loopR t n col p (f + 1) a acc m = (false, p, (if m then acc else sub t p (cutOf t n a)) ++ sep br, true) := by
  simp only [loopR]; rw [if_pos h, hx]; simp only []; rw [if_pos hc]
theorem loopR_next (h : t (stopOf t n a) = 10) (hx : nextOf t n col (stopOf t n a) = some (a', br)) (hc : colonB t n a' = false) :
    loopR t n col p (f + 1) a acc m = loopR t n col p f a' (((if m then acc else sub t p (cutOf t n a)) ++ sep br) ++ sub t a' (cutOf t n a')) true := by
  simp only [loopR]; rw [if_pos h, hx]; simp only []; rw [if_neg (by rw [hc]; decide)]
end

theorem sub_length (t : Nat → Int) (a b : Nat) : (sub t a b).length = b - a := by simp [sub]
theorem sep_length (br : Nat) : (sep br).length ≤ br + 1 := by
  unfold sep
  split <;> simp
theorem cutOf_le (t : Nat → Int) (n a : Nat) : cutOf t n a ≤ stopOf t n a := trimE_le _ _ _
theorem cutOf_gt (t : Nat → Int) {n a : Nat} (ha : a < n) (hl : t (n - 1) = 10) (h32 : t a ≠ 32) (h10 : t a ≠ 10) : a < cutOf t n a := by
  have h1 := stopOf_ge t n a
  have h2 : a ≠ stopOf t n a := by
    intro e
    have := stopOf_ps t ha hl
    rw [← e] at this
    rcases this with h | h
    · exact h10 h
    · omega
  unfold cutOf
  have h3 : ∀ b, a < b → a < trimE t a b := by
    intro b
    induction b with
    | zero => intro h; omega
    | succ b ih =>
      intro h
      simp only [trimE]
      split
      · rename_i hc
        have : a ≠ b := by rintro rfl; exact h32 hc.2
        exact ih (by omega)
      · omega
  exact h3 _ (by omega)

end Go.Proofs.Qxb6603316aMods
