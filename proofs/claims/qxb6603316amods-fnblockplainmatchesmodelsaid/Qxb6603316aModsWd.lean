import Derived.Test.Qxb6603316aModsWc
namespace Go.Proofs.Qxb6603316aMods
open Go.RowKit
set_option linter.unusedVariables false

theorem flow13_no (g o n c p : Nat) (b : Bool) (t : Nat → Int) (w : World) (hn : n ≤ 1048576) (hp : p < n) (hl : t (n - 1) = 10) (hc : Txt w g o n t) (hs : startB (t p) (t (p + 1)) = false) :
    Calls Trym.prog 13 #[.slice (some ⟨g, o, none⟩) n c, .int .i64 p, .bool b] w fun e w' => e = .returned (.tuple #[.bool false, .int .i64 p]) ∧ w' = w := by
  have HL : Hid (t (n - 1) = 10) := hl
  clear hl
  go_enter Trym.func13, Trym.ntmps13
  go_wp2_with (go_at_call 27; refine (start27 g o n c p t _ hn hp HL.out hc).mono ?_; rintro e w' ⟨rfl, hw⟩; obtain rfl := hw.symm)
  go_ret2
  exact ⟨rfl, rfl⟩

theorem flow29_no (B g n p : Nat) (b : Bool) (t : Nat → Int) (w : World) (hn : n ≤ 1048576) (hp : p < n) (hl : t (n - 1) = 10) (hc : Txt w g 0 n t) (hs : startB (t p) (t (p + 1)) = false)
    (h0 : w.cell? ⟨B, 0, none⟩ = some (.slice (some ⟨g, 0, none⟩) n n)) (h1 : w.cell? ⟨B, 1, none⟩ = some (.int .i64 p)) :
    Calls Trym.prog 29 #[.pointer (some ⟨B, 0, none⟩), .bool b] w fun e w' => e = .returned (.tuple #[.slice none 0 0, .bool false]) ∧ ∃ q, w' = w.drewN q := by
  have HL : Hid (t (n - 1) = 10) := hl
  clear hl
  go_enter Trym.func29, Trym.ntmps29
  go_wp2_with fail
  go_quiet ((go_at_call 35; exact Calls.quiet_of_same (start35 g 0 n n p t _ hn hp HL.out hc)))
  go_wp2
  go_ret2
  exact ⟨rfl, _, rfl⟩

set_option maxRecDepth 100000 in
set_option maxHeartbeats 2000000 in
theorem flow29 (B g n p : Nat) (b : Bool) (t : Nat → Int) (w : World) (hn : n ≤ 1048576) (hp : p < n) (hl : t (n - 1) = 10) (hc : Txt w g 0 n t) (hs : startB (t p) (t (p + 1)) = true)
    (h0 : w.cell? ⟨B, 0, none⟩ = some (.slice (some ⟨g, 0, none⟩) n n)) (h1 : w.cell? ⟨B, 1, none⟩ = some (.int .i64 p)) (hf : w.frozen? ⟨B, 1, none⟩ = false) :
    Calls Trym.prog 29 #[.pointer (some ⟨B, 0, none⟩), .bool b] w fun e w' => ∃ m, FirstStop t p n m ∧
      (((fin t p b m).1 = false ∧ e = .returned (.tuple #[.slice none 0 0, .bool false]) ∧ ∃ q, w' = w.drewN q) ∨
       ((fin t p b m).1 = true ∧ e = .returned (.tuple #[.slice (some ⟨g, p, none⟩) ((fin t p b m).2 - p) (n - p), .bool true]) ∧ ∃ q, w' = (w.drewN q).setCell ⟨B, 1, none⟩ (.int .i64 (fin t p b m).2))) := by
  have HL : Hid (t (n - 1) = 10) := hl
  have HS : Hid (startB (t p) (t (p + 1)) = true) := hs
  clear hl
  go_enter Trym.func29, Trym.ntmps29
  go_wp2_with fail
  go_quiet ((go_at_call 35; exact Calls.quiet_of_same (start35 g 0 n n p t _ hn hp HL.out hc)))
  clear hs
  go_wp2
  go_quiet (fail)
  go_wp2
  rw [World.drewN_drewN]
  go_loop [7, 8] (fun e i => ∃ k : Nat, p ≤ k ∧ k < n ∧ e = .int .i64 (trimE t p k) ∧ i = .int .i64 k ∧ Non (Stop t p) p k) (fun _ i => n - (intOf i).toNat)
  case atStart => exact ⟨p, Nat.le_refl _, hp, by rw [trimE_self], rfl, Non.start _ _⟩
  case round =>
    obtain ⟨k, hk1, hk2, rfl, rfl, hnon⟩ := hrel
    have hr1 := trimE_le t p k
    have hr2 := trimE_ge t p k hk1
    have g1 := hc k hk2
    obtain ⟨x, hx⟩ : ∃ x, t k = x := ⟨_, rfl⟩
    rw [hx, Nat.zero_add] at g1
    have HX : Hid (t k = x) := hx
    clear hx
    by_cases hQ : x = 10 ∨ x = 44 ∨ x = 93 ∨ x = 125
    · have HFS : FirstStop t p n k := ⟨hk1, hk2, by
        rcases hQ with h | h
        · exact .inl (HX.out.trans h)
        · exact .inr (.inl (by unfold P2; rw [HX.out]; exact h)), hnon⟩
      cases b
      · have HR : Hid (fin t p false k = (true, trimE t p k)) := by unfold Hid fin; rw [HX.out, if_neg (by omega), if_pos (by omega)]; rfl
        rcases hQ with hQ | hQ | hQ | hQ
        all_goals
          subst hQ
          go_wp2
          go_ret2
          exact ⟨k, HFS, .inr ⟨by rw [HR.out], by rw [HR.out]; rfl, _, by rw [HR.out]⟩⟩
      · have HR : Hid (fin t p true k = (false, p)) := by unfold Hid fin; rw [HX.out, if_neg (by omega), if_pos (by omega)]; rfl
        rcases hQ with hQ | hQ | hQ | hQ
        all_goals
          subst hQ
          go_wp2
          go_ret2
          exact ⟨k, HFS, .inl ⟨by rw [HR.out], rfl, _, rfl⟩⟩
    have e1 : (x == 44) = false := by simp; omega
    have e2 : (x == 93) = false := by simp; omega
    have e3 : (x == 125) = false := by simp; omega
    have e4 : (x == 10) = false := by simp; omega
    have hkn : k + 1 < n := by
      have : k ≠ n - 1 := by
        intro e
        exact hQ (.inl (HX.out.symm.trans (e ▸ HL.out)))
      omega
    by_cases hR : x = 63 ∨ x = 91 ∨ x = 123
    · have HFS : FirstStop t p n k := ⟨hk1, hk2, .inr (.inr (.inr (.inl (by unfold P4; rw [HX.out]; exact hR)))), hnon⟩
      have HR : Hid (fin t p b k = (false, p)) := by unfold Hid fin; rw [HX.out, if_neg (by omega), if_neg (by omega)]
      clear e1 e2 e3 e4 hQ
      rcases hR with hR | hR | hR
      all_goals
        subst hR
        go_wp2
        go_ret2
        exact ⟨k, HFS, .inl ⟨by rw [HR.out], rfl, _, rfl⟩⟩
    have e5 : (x == 63) = false := by simp; omega
    have e6 : (x == 91) = false := by simp; omega
    have e7 : (x == 123) = false := by simp; omega
    by_cases h58 : x = 58
    · have g2 := hc (k + 1) hkn
      obtain ⟨y, hy⟩ : ∃ y, t (k + 1) = y := ⟨_, rfl⟩
      rw [hy, Nat.zero_add] at g2
      have HY : Hid (t (k + 1) = y) := hy
      clear hy
      by_cases hP : y = 32 ∨ y = 10
      · have HFS : FirstStop t p n k := ⟨hk1, hk2, .inr (.inr (.inl (by unfold P3; rw [HX.out, HY.out]; exact ⟨h58, hP⟩))), hnon⟩
        have HR : Hid (fin t p b k = (true, trimE t p k)) := by unfold Hid fin; rw [HX.out, if_pos h58]
        clear e1 e2 e3 e4 e5 e6 e7 hQ hR
        subst h58
        rcases hP with hP | hP
        all_goals
          subst hP
          go_wp2
          go_ret2
          exact ⟨k, HFS, .inr ⟨by rw [HR.out], by rw [HR.out]; rfl, _, by rw [HR.out]⟩⟩
      · have HN : ¬ Stop t p k := by
          unfold Stop P1 P2 P3 P4 P5
          rw [HX.out, HY.out]
          omega
        have HT := trimE_no t p k (by rw [HX.out]; omega)
        have e8 : (y == 32) = false := by simp; omega
        have e9 : (y == 10) = false := by simp; omega
        have HT' : Hid (trimE t p (k + 1) = k + 1) := HT
        clear e1 e2 e3 e4 e5 e6 e7 hQ hR HT
        subst h58
        go_wp2
        go_round
        case rel => exact ⟨k + 1, by omega, hkn, by rw [HT'.out]; go_num, by go_num, hnon.next HN⟩
        case measure => simp [intOf]; omega
    have e8 : (x == 58) = false := by simp; omega
    by_cases h35 : x = 35
    · have hpk : p < k := by
        have := (start_ne HS.out).2.2.2.2.2.2.2.1
        have : p ≠ k := by rintro rfl; exact this (HX.out.trans h35)
        omega
      have g2 := hc (k - 1) (by omega)
      obtain ⟨y, hy⟩ : ∃ y, t (k - 1) = y := ⟨_, rfl⟩
      rw [hy, Nat.zero_add] at g2
      have HY : Hid (t (k - 1) = y) := hy
      clear hy
      by_cases hP : y = 32
      · have HFS : FirstStop t p n k := ⟨hk1, hk2, .inr (.inr (.inr (.inr ⟨by unfold P5; rw [HX.out, HY.out]; exact ⟨h35, hP⟩, hpk⟩))), hnon⟩
        have HR : Hid (fin t p b k = (false, p)) := by unfold Hid fin; rw [HX.out, if_neg (by omega), if_neg (by omega)]
        clear e1 e2 e3 e4 e5 e6 e7 e8 hQ hR h58
        subst h35
        subst hP
        go_wp2
        go_ret2
        exact ⟨k, HFS, .inl ⟨by rw [HR.out], rfl, _, rfl⟩⟩
      · have HN : ¬ Stop t p k := by
          unfold Stop P1 P2 P3 P4 P5
          rw [HX.out, HY.out]
          omega
        have HT' : Hid (trimE t p (k + 1) = k + 1) := trimE_no t p k (by rw [HX.out]; omega)
        have e9 : (y == 32) = false := by simp; omega
        clear e1 e2 e3 e4 e5 e6 e7 e8 hQ hR h58
        subst h35
        go_wp2
        go_round
        case rel => exact ⟨k + 1, by omega, hkn, by rw [HT'.out]; go_num, by go_num, hnon.next HN⟩
        case measure => simp [intOf]; omega
    have e9 : (x == 35) = false := by simp; omega
    have HN : ¬ Stop t p k := by
      unfold Stop P1 P2 P3 P4 P5
      rw [HX.out]
      omega
    by_cases h32 : x = 32
    · have HT' : Hid (trimE t p (k + 1) = trimE t p k) := trimE_sp t p k hk1 (by rw [HX.out]; omega)
      clear e1 e2 e3 e4 e5 e6 e7 e8 e9 hQ hR h58 h35
      subst h32
      go_wp2
      go_round
      case rel => exact ⟨k + 1, by omega, hkn, by rw [HT'.out], by go_num, hnon.next HN⟩
      case measure => simp [intOf]; omega
    · have HT' : Hid (trimE t p (k + 1) = k + 1) := trimE_no t p k (by rw [HX.out]; omega)
      have e10 : (x != 32) = true := by simp; omega
      go_wp2
      go_round
      case rel => exact ⟨k + 1, by omega, hkn, by rw [HT'.out]; go_num, by go_num, hnon.next HN⟩
      case measure => simp [intOf]; omega
end Go.Proofs.Qxb6603316aMods
