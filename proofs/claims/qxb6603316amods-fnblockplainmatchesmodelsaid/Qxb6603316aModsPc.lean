/- Plain laws of the model's selection: no Go here. -/
import Derived.Test.Qxb6603316aModsPb
namespace Go.Proofs.Qxb6603316aMods
set_option linter.unusedVariables false

def lst (L : List (Nat × Nat)) (j : Nat) : Nat := (L.getD j (0, 0)).1
def lnd (L : List (Nat × Nat)) (j : Nat) : Nat := (L.getD j (0, 0)).2

theorem isLines_at {t : Nat → Int} {n x j : Nat} {L : List (Nat × Nat)} (h : IsLines t n x (L.drop j)) (hj : j < L.length) :
    lst L j = x ∧ x ≤ lnd L j ∧ lnd L j < n ∧ t (lnd L j) = 10 ∧ Non (P1 t) x (lnd L j) ∧ IsLines t n (lnd L j + 1) (L.drop (j + 1)) := by
  rw [List.drop_eq_getElem_cons hj] at h
  have e : L.getD j (0, 0) = L[j] := by simp [hj]
  unfold lst lnd
  rw [e]
  generalize L[j] = q at h
  obtain ⟨s, e⟩ := q
  simp only [IsLines] at h
  exact ⟨h.1, h.2.1, h.2.2.1, h.2.2.2.1, h.2.2.2.2.1, h.2.2.2.2.2⟩

theorem isLines_end {t : Nat → Int} {n x j : Nat} {L : List (Nat × Nat)} (h : IsLines t n x (L.drop j)) (hj : L.length ≤ j) : x = n := by
  rw [List.drop_eq_nil_of_le hj] at h
  exact h

theorem skip_spaces {t : Nat → Int} {n nx b : Nat} : ∀ (d x y : Nat), y - x = d → x ≤ y → y ≤ n → (∀ i, x ≤ i → i < y → t i = 32) → skipF t (n - x) x nx b = skipF t (n - y) y nx b
  | 0, x, y, hd, h1, h2, h3 => by rw [show x = y by omega]
  | d + 1, x, y, hd, h1, h2, h3 => by
    have hx := h3 x (Nat.le_refl _) (by omega)
    rw [show n - x = (n - (x + 1)) + 1 by omega]
    simp only [skipF]
    rw [if_neg (by omega), if_pos hx]
    exact skip_spaces d (x + 1) y (by omega) (by omega) h2 (fun i i1 i2 => h3 i (by omega) i2)

theorem skip_break {t : Nat → Int} {n x nx b : Nat} (h : x < n) (h10 : t x = 10) : skipF t (n - x) x nx b = skipF t (n - (x + 1)) (x + 1) (x + 1) (b + 1) := by
  rw [show n - x = (n - (x + 1)) + 1 by omega]
  simp only [skipF]
  rw [if_pos h10]
theorem skip_stop {t : Nat → Int} {n x nx b : Nat} (h : x < n) (h10 : t x ≠ 10) (h32 : t x ≠ 32) : skipF t (n - x) x nx b = (x, nx, b) := by
  rw [show n - x = (n - (x + 1)) + 1 by omega]
  simp only [skipF]
  rw [if_neg h10, if_neg h32]

/-- a blank line is passed -/
theorem skip_blank {t : Nat → Int} {n x e nx b : Nat} (hx : x ≤ e) (he : e < n) (h10 : t e = 10) (hb : ledE t x e = e) : skipF t (n - x) x nx b = skipF t (n - (e + 1)) (e + 1) (e + 1) (b + 1) := by
  have hs := ledE_spec t hx
  rw [hb] at hs
  rw [skip_spaces (e - x) x e rfl hx (by omega) hs.2.2.1]
  exact skip_break he h10
/-- a line that holds more than spaces stops the skipping -/
theorem skip_line {t : Nat → Int} {n x e nx b : Nat} (hx : x ≤ e) (he : e < n) (hnon : Non (P1 t) x e) (hb : ledE t x e ≠ e) : skipF t (n - x) x nx b = (ledE t x e, nx, b) := by
  have hs := ledE_spec t hx
  have hlt : ledE t x e < e := by omega
  rw [skip_spaces (ledE t x e - x) x (ledE t x e) rfl hs.1 (by omega) hs.2.2.1]
  exact skip_stop (by omega) (hnon _ hs.1 hlt) (hs.2.2.2 hlt)

/-- the piece at a stands on line j -/
structure LineAt (t : Nat → Int) (n : Nat) (L : List (Nat × Nat)) (j a : Nat) : Prop where
  lt : j < L.length
  ge : lst L j ≤ a
  le : a < lnd L j
  en : lnd L j < n
  brk : t (lnd L j) = 10
  non : Non (P1 t) a (lnd L j)
  n32 : t a ≠ 32
  n10 : t a ≠ 10
  more : IsLines t n (lnd L j + 1) (L.drop (j + 1))

theorem LineAt.of {t : Nat → Int} {n x j a : Nat} {L : List (Nat × Nat)} (h : IsLines t n x (L.drop j)) (hj : j < L.length) (h1 : x ≤ a) (h2 : a ≤ lnd L j) (h32 : t a ≠ 32) (h10 : t a ≠ 10) : LineAt t n L j a := by
  obtain ⟨e1, e2, e3, e4, e5, e6⟩ := isLines_at h hj
  have hne : a ≠ lnd L j := by rintro rfl; exact h10 e4
  exact ⟨hj, by omega, by omega, e3, e4, fun i i1 i2 => e5 i (by omega) i2, h32, h10, e6⟩

def prs (T F : List Nat) : List (Nat × Nat) := (List.range (T.length - 1)).map fun i => (F.getD (i + 1) 0, T.getD (i + 1) 0 - T.getD i 0 - 1)

/-- what the selection has so far -/
structure SelI (t : Nat → Int) (n : Nat) (col : Int) (p : Nat) (L : List (Nat × Nat)) (T F : List Nat) : Prop where
  len : F.length = T.length
  pos : 0 < T.length
  f0 : F.getD 0 0 = p
  ok : ∀ i, i < T.length → LineAt t n L (T.getD i 0) (F.getD i 0)
  inc : ∀ i, i + 1 < T.length → T.getD i 0 < T.getD (i + 1) 0

def SelC (t : Nat → Int) (n : Nat) (col : Int) (p : Nat) (T F : List Nat) (f : Nat) : Prop :=
  n - F.getD (T.length - 1) 0 ≤ f ∧ chainR t n col n p = prs T F ++ chainR t n col f (F.getD (T.length - 1) 0)

section
variable {t : Nat → Int} {n : Nat} {col : Int} {p : Nat} {L : List (Nat × Nat)} {T F : List Nat} {f : Nat}

theorem SelI.start (h : IsLines t n p L) (hp : p < n) (h32 : t p ≠ 32) (h10 : t p ≠ 10) : SelI t n col p L [0] [p] := by
  have hl : 0 < L.length := by
    cases L with
    | nil => simp only [IsLines] at h; omega
    | cons q L => simp
  refine ⟨rfl, by simp, rfl, fun i hi => ?_, fun i hi => by simp at hi⟩
  simp at hi
  subst hi
  have h0 : IsLines t n p (L.drop 0) := h
  exact LineAt.of h0 hl (Nat.le_refl _) (isLines_at h0 hl).2.1 h32 h10
theorem SelC.start : SelC t n col p [0] [p] n := ⟨by simp, by simp [prs]⟩

theorem SelC.end1 (h : SelC t n col p T F (f + 1)) (hx : t (stopOf t n (F.getD (T.length - 1) 0)) ≠ 10) : chainR t n col n p = prs T F := by
  have := h.2
  simp only [chainR] at this
  rw [if_neg hx, List.append_nil] at this
  exact this
theorem SelC.end2 (h : SelC t n col p T F (f + 1)) (hx : nextOf t n col (stopOf t n (F.getD (T.length - 1) 0)) = none) : chainR t n col n p = prs T F := by
  have := h.2
  simp only [chainR] at this
  rw [hx] at this
  simpa using this

theorem getD_append_last (T : List Nat) (x : Nat) : (T ++ [x]).getD T.length 0 = x := by simp
theorem getD_append_lt (T : List Nat) (x i : Nat) (h : i < T.length) : (T ++ [x]).getD i 0 = T.getD i 0 := by simp [List.getElem?_append_left h]

theorem prs_append (hl : F.length = T.length) (hp : 0 < T.length) (j a : Nat) : prs (T ++ [j]) (F ++ [a]) = prs T F ++ [(a, j - T.getD (T.length - 1) 0 - 1)] := by
  unfold prs
  rw [List.length_append, List.length_singleton, Nat.add_sub_cancel]
  obtain ⟨m, hm⟩ : ∃ m, T.length = m + 1 := ⟨T.length - 1, by omega⟩
  rw [hm, List.range_succ, List.map_append, Nat.add_sub_cancel]
  congr 1
  · apply List.map_congr_left
    intro i hi
    simp only [List.mem_range] at hi
    rw [getD_append_lt T j i (by omega), getD_append_lt T j (i + 1) (by omega), getD_append_lt F a (i + 1) (by omega)]
  · simp only [List.map_cons, List.map_nil]
    have h1 := getD_append_last T j
    have h2 := getD_append_last F a
    rw [hm] at h1
    rw [hl, hm] at h2
    rw [h1, h2, getD_append_lt T j m (by omega)]

theorem SelI.next (h : SelI t n col p L T F) {j a : Nat} (hj : LineAt t n L j a) (hlt : T.getD (T.length - 1) 0 < j) : SelI t n col p L (T ++ [j]) (F ++ [a]) := by
  have hp := h.pos
  have hl := h.len
  refine ⟨by simp [hl], by simp, by rw [getD_append_lt F a 0 (by omega)]; exact h.f0, fun i hi => ?_, fun i hi => ?_⟩
  · simp at hi
    by_cases hi' : i < T.length
    · rw [getD_append_lt T j i hi', getD_append_lt F a i (by omega)]; exact h.ok i hi'
    · obtain rfl : i = T.length := by omega
      rw [getD_append_last]
      have := getD_append_last F a
      rw [hl] at this
      rw [this]
      exact hj
  · simp at hi
    by_cases hi' : i + 1 < T.length
    · rw [getD_append_lt T j i (by omega), getD_append_lt T j (i + 1) hi']; exact h.inc i hi'
    · obtain hi2 : i + 1 = T.length := by omega
      rw [hi2, getD_append_last, getD_append_lt T j i (by omega), show i = T.length - 1 by omega]
      exact hlt

theorem SelC.next (h : SelC t n col p T F (f + 1)) (hl : F.length = T.length) (hp : 0 < T.length) {j a : Nat} (h10 : t (stopOf t n (F.getD (T.length - 1) 0)) = 10) (hlt : F.getD (T.length - 1) 0 < n)
    (hx : nextOf t n col (stopOf t n (F.getD (T.length - 1) 0)) = some (a, j - T.getD (T.length - 1) 0 - 1)) : SelC t n col p (T ++ [j]) (F ++ [a]) f := by
  have e1 : (F ++ [a]).getD ((T ++ [j]).length - 1) 0 = a := by
    have := getD_append_last F a
    rw [hl] at this
    simpa using this
  unfold SelC
  rw [e1]
  have hs := nextOf_some (stopOf_lt t hlt) hx
  have hg := stopOf_ge t n (F.getD (T.length - 1) 0)
  refine ⟨by have := h.1; omega, ?_⟩
  have := h.2
  simp only [chainR] at this
  rw [if_pos h10, hx] at this
  rw [prs_append hl hp, List.append_assoc]
  exact this
end

theorem prs_drop {T F : List Nat} {i : Nat} (h0 : 0 < i) (hi : i < T.length) : (prs T F).drop (i - 1) = (F.getD i 0, T.getD i 0 - T.getD (i - 1) 0 - 1) :: (prs T F).drop i := by
  have hl : (prs T F).length = T.length - 1 := by simp [prs]
  rw [List.drop_eq_getElem_cons (by omega)]
  congr 1
  · simp only [prs, List.getElem_map, List.getElem_range]
    rw [show i - 1 + 1 = i by omega]
  · rw [show i - 1 + 1 = i by omega]
theorem prs_end {T F : List Nat} {i : Nat} (hi : T.length ≤ i) : (prs T F).drop (i - 1) = [] := by
  apply List.drop_eq_nil_of_le
  simp [prs]
  omega

section
variable {t : Nat → Int} {n p a' br cut : Nat} {rest : List (Nat × Nat)} {acc : List Int} {m : Bool}
theorem foldC_colon (hc : colonB t n a' = true) : foldC t n p ((a', br) :: rest) cut acc m = (false, p, (if m then acc else sub t p cut) ++ sep br, true) := by
  simp only [foldC]; rw [if_pos hc]
theorem foldC_next (hc : colonB t n a' = false) : foldC t n p ((a', br) :: rest) cut acc m = foldC t n p rest (cutOf t n a') (((if m then acc else sub t p cut) ++ sep br) ++ sub t a' (cutOf t n a')) true := by
  simp only [foldC]; rw [if_neg (by rw [hc]; decide)]
end

end Go.Proofs.Qxb6603316aMods
