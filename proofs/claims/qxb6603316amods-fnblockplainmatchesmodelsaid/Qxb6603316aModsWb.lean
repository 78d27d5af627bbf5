import Derived.Test.Qxb6603316aModsWa
import Derived.Deep.QuietTactic
import Derived.BigQuiet
namespace Go.Proofs.Qxb6603316aMods
open Go.RowKit
set_option linter.unusedVariables false

/-- may a plain scalar start at c, followed by d? -/
def startB (c d : Int) : Bool :=
  if c == 45 then (d != 32) && (d != 10)
  else !(c == 63 || c == 58 || c == 44 || c == 91 || c == 93 || c == 123 || c == 125 || c == 35 || c == 38 || c == 42 || c == 33 || c == 124 || c == 62 || c == 39 || c == 34 || c == 37 || c == 64 || c == 96 || c == 32 || c == 10)

set_option maxHeartbeats 1000000 in
theorem start27 (g o n c p : Nat) (t : Nat → Int) (w : World) (hn : n ≤ 1048576) (hp : p < n) (hl : t (n - 1) = 10) (hc : Txt w g o n t) :
    Calls Trym.prog 27 #[.slice (some ⟨g, o, none⟩) n c, .int .i64 p] w fun e w' => e = .returned (.bool (startB (t p) (t (p + 1)))) ∧ w' = w := by
  have g1 := hc p hp
  by_cases h45 : t p = 45
  · have hp1 : p + 1 < n := by
      have : p ≠ n - 1 := by rintro rfl; rw [hl] at h45; omega
      omega
    have g2 := hc (p + 1) hp1
    rw [h45] at g1 ⊢
    generalize t (p + 1) = d at *
    clear hl h45 hc
    by_cases hd : d = 32
    · subst hd
      go_enter Trym.func27, Trym.ntmps27
      go_wp2
      go_ret
      exact ⟨rfl, rfl⟩
    · have hd' : (d != 32) = true := by simp [hd]
      go_enter Trym.func27, Trym.ntmps27
      go_wp2
      go_ret
      exact ⟨by simp [startB, hd], rfl⟩
  · generalize t (p + 1) = d
    generalize t p = c0 at *
    have h45' : (c0 == 45) = false := by simp [h45]
    clear hl hc
    go_enter Trym.func27, Trym.ntmps27
    go_wp2
    all_goals
      go_ret
      exact ⟨by simp [startB, *], rfl⟩

set_option maxHeartbeats 1000000 in
theorem start35 (g o n c p : Nat) (t : Nat → Int) (w : World) (hn : n ≤ 1048576) (hp : p < n) (hl : t (n - 1) = 10) (hc : Txt w g o n t) :
    Calls Trym.prog 35 #[.slice (some ⟨g, o, none⟩) n c, .int .i64 p] w fun e w' => e = .returned (.bool (startB (t p) (t (p + 1)))) ∧ w' = w := by
  have g1 := hc p hp
  by_cases h45 : t p = 45
  · have hp1 : p + 1 < n := by
      have : p ≠ n - 1 := by rintro rfl; rw [hl] at h45; omega
      omega
    have g2 := hc (p + 1) hp1
    rw [h45] at g1 ⊢
    generalize t (p + 1) = d at *
    clear hl h45 hc
    by_cases hd : d = 32
    · subst hd
      go_enter Trym.func35, Trym.ntmps35
      go_wp2
      go_ret
      exact ⟨rfl, rfl⟩
    · have hd' : (d != 32) = true := by simp [hd]
      go_enter Trym.func35, Trym.ntmps35
      go_wp2
      go_ret
      exact ⟨by simp [startB, hd], rfl⟩
  · generalize t (p + 1) = d
    generalize t p = c0 at *
    have h45' : (c0 == 45) = false := by simp [h45]
    clear hl hc
    go_enter Trym.func35, Trym.ntmps35
    go_wp2
    all_goals
      go_ret
      exact ⟨by simp [startB, *], rfl⟩


/-- the end of [a, b) less its trailing spaces -/
def trimE (t : Nat → Int) (a : Nat) : Nat → Nat
  | 0 => 0
  | b + 1 => if a < b + 1 ∧ t b = 32 then trimE t a b else b + 1

theorem trim28 (g o n c a b : Nat) (t : Nat → Int) (w : World) (hn : n ≤ 1048576) (hb : b ≤ n) (hc : Txt w g o n t) :
    Calls Trym.prog 28 #[.slice (some ⟨g, o, none⟩) n c, .int .i64 a, .int .i64 b] w fun e w' => e = .returned (.int .i64 (trimE t a b)) ∧ w' = w := by
  by_cases hab : b ≤ a
  · have hr : trimE t a b = b := by
      cases b with
      | zero => rfl
      | succ b => simp only [trimE]; rw [if_neg (by omega)]
    rw [hr]
    go_enter Trym.func28, Trym.ntmps28
    go_wp2
    go_loop [2] (fun v => v = .int .i64 b) (fun v => 0)
    case atStart => rfl
    case round =>
      subst hrel
      go_wp2
      go_ret
      exact ⟨rfl, rfl⟩
  go_enter Trym.func28, Trym.ntmps28
  go_wp2
  go_loop [2] (fun v => ∃ k : Nat, k ≤ b ∧ a ≤ k ∧ v = .int .i64 k ∧ Hid (trimE t a k = trimE t a b)) (fun v => (intOf v).toNat)
  case atStart => exact ⟨b, Nat.le_refl _, by omega, rfl, rfl⟩
  case round =>
    obtain ⟨k, hk, hak, rfl, H⟩ := hrel
    by_cases hlt : a < k
    · have g1 := hc (k - 1) (by omega)
      obtain ⟨x, hx⟩ : ∃ x, t (k - 1) = x := ⟨_, rfl⟩
      have HX : Hid (t (k - 1) = x) := hx
      rw [hx] at g1
      clear hx
      by_cases h32 : x = 32
      · subst h32
        have HT : Hid (trimE t a (k - 1) = trimE t a b) := by
          rw [Hid, ← H.out]
          obtain ⟨k', rfl⟩ : ∃ k', k = k' + 1 := ⟨k - 1, by omega⟩
          simp only [trimE]
          rw [if_pos ⟨by omega, HX.out⟩]; rfl
        go_wp2
        go_round
        case rel => exact ⟨k - 1, by omega, by omega, by go_num, HT⟩
        case measure => simp [intOf]; omega
      · have hx : (x == 32) = false := by simp [h32]
        have HT : Hid (trimE t a b = k) := by
          rw [Hid, ← H.out]
          obtain ⟨k', rfl⟩ : ∃ k', k = k' + 1 := ⟨k - 1, by omega⟩
          simp only [trimE]
          rw [if_neg (fun h => h32 (HX.out.symm.trans h.2))]
        go_wp2
        go_ret
        exact ⟨by rw [HT.out]; rfl, rfl⟩
    · have HT : Hid (trimE t a b = k) := by
        rw [Hid, ← H.out]
        cases k with
        | zero => rfl
        | succ k => simp only [trimE]; rw [if_neg (by omega)]
      go_wp2
      go_ret
      exact ⟨by rw [HT.out]; rfl, rfl⟩

theorem eq_zero (a1 a2 : Option Addr) (c1 c2 : Nat) (w : World) :
    Calls Trym.prog 15 #[.slice a1 0 c1, .slice a2 0 c2] w fun e w' => e = .returned (.bool true) ∧ w' = w := by
  go_enter Trym.func15, Trym.ntmps15
  go_wp2
  go_loop [5] (fun v => v = .int .i64 0) (fun v => 0)
  case atStart => rfl
  case round =>
    subst hrel
    go_wp2
    go_ret
    exact ⟨rfl, rfl⟩

theorem eq_same (g1 o1 c1 g2 o2 c2 n : Nat) (t : Nat → Int) (w : World) (hn : n ≤ 2097152) (h1 : Txt w g1 o1 n t) (h2 : Txt w g2 o2 n t) :
    Calls Trym.prog 15 #[.slice (some ⟨g1, o1, none⟩) n c1, .slice (some ⟨g2, o2, none⟩) n c2] w fun e w' => e = .returned (.bool true) ∧ ∃ q, w' = w.drewN q := by
  go_enter Trym.func15, Trym.ntmps15
  go_wp2
  go_loopw [5] (fun v wr => ∃ k : Nat, k ≤ n ∧ v = .int .i64 k ∧ ∃ q, wr = w.drewN q) (fun v _ => n - (intOf v).toNat)
  case atStart => exact ⟨0, by omega, rfl, 0, rfl⟩
  case round =>
    obtain ⟨k, hk, rfl, q, rfl⟩ := hrel
    by_cases hlt : k < n
    · have e1 := h1 k hlt
      have e2 := h2 k hlt
      go_wp2
      go_quiet (fail)
      go_wp2
      go_roundw
      case rel => exact ⟨k + 1, by omega, by go_num, _, rfl⟩
      case measure => simp [intOf]; omega
    · go_wp2
      go_ret
      exact ⟨rfl, _, rfl⟩

end Go.Proofs.Qxb6603316aMods
