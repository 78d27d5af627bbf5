import Derived.Test.Qxb6603316aModsPl
import Derived.Deep.DeepCutAuto
import Derived.Deep.CutBlock
import Derived.Deep.LoopGhost
namespace Go.Proofs.Qxb6603316aMods
open Go.RowKit
set_option linter.unusedVariables false

set_option maxHeartbeats 2000000 in
theorem flow13 (g o n c p : Nat) (b : Bool) (t : Nat → Int) (w : World) (hn : n ≤ 1048576) (hp : p < n) (hl : t (n - 1) = 10) (hc : Txt w g o n t) (hs : startB (t p) (t (p + 1)) = true) :
    Calls Trym.prog 13 #[.slice (some ⟨g, o, none⟩) n c, .int .i64 p, .bool b] w fun e w' =>
      ∃ m1 m2 m3 m4 m5 : Nat, p ≤ m5 ∧ m5 < n ∧ (Fst (P1 t) p (n - 1) m1 ∧ Fst (P2 t) p m1 m2 ∧ Fst (P3 t) p m2 m3 ∧ Fst (P4 t) p m3 m4 ∧ Fst (P5 t) (p + 1) m4 m5) ∧
        e = .returned (.tuple #[.bool (fin t p b m5).1, .int .i64 (fin t p b m5).2]) ∧ w' = w := by
  have HL : Hid (t (n - 1) = 10) := hl
  clear hl
  go_enter Trym.func13, Trym.ntmps13
  go_upto_block 0 with (go_at_call 27; refine (start27 g o n c p t _ hn hp HL.out hc).mono ?_; rintro e w' ⟨rfl, hw⟩; obtain rfl := hw.symm)
  clear hs
  go_cut [8] (fun m wx => ∃ m1 : Nat, p ≤ m1 ∧ m1 < n ∧ m = .int .i64 m1 ∧ Fst (P1 t) p (n - 1) m1 ∧ w = wx)
  case first =>
    go_wp2_with fail
    go_loop [8] (fun m => ∃ k : Nat, p ≤ k ∧ k < n ∧ m = .int .i64 k ∧ Non (P1 t) p k) (fun m => n - (intOf m).toNat)
    case atStart => exact ⟨p, Nat.le_refl _, hp, rfl, Non.start _ _⟩
    case round =>
      obtain ⟨k, hk1, hk2, rfl, hnon⟩ := hrel
      have g1 := hc k hk2
      obtain ⟨x, hx⟩ : ∃ x, t k = x := ⟨_, rfl⟩
      rw [hx] at g1
      have HX : Hid (t k = x) := hx
      clear hx
      by_cases h10 : x = 10
      · subst h10
        go_wp2
        go_meet
        case rel => exact ⟨k, hk1, hk2, rfl, by
          by_cases e : k = n - 1
          · rw [← e]; exact hnon.miss
          · exact hnon.hit HX.out (by omega) hk1, rfl⟩
      · have h10' : (x != 10) = true := by simp [h10]
        have hkn : k + 1 < n := by
          have : k ≠ n - 1 := by
            intro e
            exact h10 (HX.out.symm.trans (e ▸ HL.out))
          omega
        go_wp2
        go_round
        case rel => exact ⟨k + 1, by omega, hkn, by go_num, hnon.next (by intro h; exact h10 (HX.out.symm.trans h))⟩
        case measure => simp [intOf]; omega
  case rest =>
  obtain ⟨m1, hm1, hm1n, rfl, hf1, rfl⟩ := hcut
  go_upto_block 2 with fail
  go_cut [8] (fun m wx => ∃ m2 : Nat, p ≤ m2 ∧ m2 < n ∧ m = .int .i64 m2 ∧ Fst (P2 t) p m1 m2 ∧ w = wx)
  case first =>
    go_wp2_with fail
    go_loop [8, 9] (fun m i => ∃ k : Nat, p ≤ k ∧ k ≤ m1 ∧ m = .int .i64 m1 ∧ i = .int .i64 k ∧ Non (P2 t) p k) (fun _ i => n - (intOf i).toNat)
    case atStart => exact ⟨p, Nat.le_refl _, hm1, rfl, rfl, Non.start _ _⟩
    case round =>
      obtain ⟨k, hk1, hk2, rfl, rfl, hnon⟩ := hrel
      by_cases hlt : k < m1
      · have g1 := hc k (by omega)
        obtain ⟨x, hx⟩ : ∃ x, t k = x := ⟨_, rfl⟩
        rw [hx] at g1
        have HX : Hid (t k = x) := hx
        clear hx
        by_cases hP : x = 44 ∨ x = 93 ∨ x = 125
        · have HP : P2 t k := by unfold P2; rw [HX.out]; exact hP
          rcases hP with hP | hP | hP
          all_goals
            subst hP
            go_wp2
            go_meet
            case rel => exact ⟨k, hk1, by omega, rfl, hnon.hit HP hlt hk1, rfl⟩
        · have HP : ¬ P2 t k := by unfold P2; rw [HX.out]; exact hP
          have e1 : (x == 44) = false := by simp; omega
          have e2 : (x == 93) = false := by simp; omega
          have e3 : (x == 125) = false := by simp; omega
          go_wp2
          go_round
          case rel => exact ⟨k + 1, by omega, by omega, rfl, by go_num, hnon.next HP⟩
          case measure => simp [intOf]; omega
      · go_wp2
        go_meet
        case rel => exact ⟨m1, hm1, hm1n, rfl, hnon.past (by omega), rfl⟩
  case rest =>
  obtain ⟨m2, hm2, hm2n, rfl, hf2, rfl⟩ := hcut
  go_upto_block 4 with fail
  go_cut [8] (fun m wx => ∃ m3 : Nat, p ≤ m3 ∧ m3 < n ∧ m = .int .i64 m3 ∧ Fst (P3 t) p m2 m3 ∧ w = wx)
  case first =>
    go_wp2_with fail
    go_loop [8, 11] (fun m i => ∃ k : Nat, p ≤ k ∧ k ≤ m2 ∧ m = .int .i64 m2 ∧ i = .int .i64 k ∧ Non (P3 t) p k) (fun _ i => n - (intOf i).toNat)
    case atStart => exact ⟨p, Nat.le_refl _, hm2, rfl, rfl, Non.start _ _⟩
    case round =>
      obtain ⟨k, hk1, hk2, rfl, rfl, hnon⟩ := hrel
      by_cases hlt : k < m2
      · have g1 := hc k (by omega)
        have g2 := hc (k + 1) (by omega)
        obtain ⟨x, hx⟩ : ∃ x, t k = x := ⟨_, rfl⟩
        obtain ⟨y, hy⟩ : ∃ y, t (k + 1) = y := ⟨_, rfl⟩
        rw [hx] at g1
        rw [hy] at g2
        have HX : Hid (t k = x) := hx
        have HY : Hid (t (k + 1) = y) := hy
        clear hx hy
        by_cases hP : x = 58 ∧ (y = 32 ∨ y = 10)
        · have HP : P3 t k := by unfold P3; rw [HX.out, HY.out]; exact hP
          obtain ⟨hP, hQ⟩ := hP
          subst hP
          rcases hQ with hQ | hQ
          all_goals
            subst hQ
            go_wp2
            go_meet
            case rel => exact ⟨k, hk1, by omega, rfl, hnon.hit HP hlt hk1, rfl⟩
        · have HP : ¬ P3 t k := by unfold P3; rw [HX.out, HY.out]; exact hP
          by_cases hx : x = 58
          · subst hx
            have e1 : (y == 32) = false := by simp; omega
            have e2 : (y == 10) = false := by simp; omega
            go_wp2
            go_round
            case rel => exact ⟨k + 1, by omega, by omega, rfl, by go_num, hnon.next HP⟩
            case measure => simp [intOf]; omega
          · have e1 : (x == 58) = false := by simp; omega
            go_wp2
            go_round
            case rel => exact ⟨k + 1, by omega, by omega, rfl, by go_num, hnon.next HP⟩
            case measure => simp [intOf]; omega
      · go_wp2
        go_meet
        case rel => exact ⟨m2, hm2, hm2n, rfl, hnon.past (by omega), rfl⟩
  case rest =>
  obtain ⟨m3, hm3, hm3n, rfl, hf3, rfl⟩ := hcut
  go_upto_block 6 with fail
  go_cut [8] (fun m wx => ∃ m4 : Nat, p ≤ m4 ∧ m4 < n ∧ m = .int .i64 m4 ∧ Fst (P4 t) p m3 m4 ∧ w = wx)
  case first =>
    go_wp2_with fail
    go_loop [8, 12] (fun m i => ∃ k : Nat, p ≤ k ∧ k ≤ m3 ∧ m = .int .i64 m3 ∧ i = .int .i64 k ∧ Non (P4 t) p k) (fun _ i => n - (intOf i).toNat)
    case atStart => exact ⟨p, Nat.le_refl _, hm3, rfl, rfl, Non.start _ _⟩
    case round =>
      obtain ⟨k, hk1, hk2, rfl, rfl, hnon⟩ := hrel
      by_cases hlt : k < m3
      · have g1 := hc k (by omega)
        obtain ⟨x, hx⟩ : ∃ x, t k = x := ⟨_, rfl⟩
        rw [hx] at g1
        have HX : Hid (t k = x) := hx
        clear hx
        by_cases hP : x = 63 ∨ x = 91 ∨ x = 123
        · have HP : P4 t k := by unfold P4; rw [HX.out]; exact hP
          rcases hP with hP | hP | hP
          all_goals
            subst hP
            go_wp2
            go_meet
            case rel => exact ⟨k, hk1, by omega, rfl, hnon.hit HP hlt hk1, rfl⟩
        · have HP : ¬ P4 t k := by unfold P4; rw [HX.out]; exact hP
          have e1 : (x == 63) = false := by simp; omega
          have e2 : (x == 91) = false := by simp; omega
          have e3 : (x == 123) = false := by simp; omega
          go_wp2
          go_round
          case rel => exact ⟨k + 1, by omega, by omega, rfl, by go_num, hnon.next HP⟩
          case measure => simp [intOf]; omega
      · go_wp2
        go_meet
        case rel => exact ⟨m3, hm3, hm3n, rfl, hnon.past (by omega), rfl⟩
  case rest =>
  obtain ⟨m4, hm4, hm4n, rfl, hf4, rfl⟩ := hcut
  go_upto_block 8 with fail
  go_cut [8] (fun m wx => ∃ m5 : Nat, p ≤ m5 ∧ m5 < n ∧ m = .int .i64 m5 ∧ Fst (P5 t) (p + 1) m4 m5 ∧ w = wx)
  case first =>
    go_wp2_with fail
    go_loop [8, 14] (fun m i => ∃ k : Nat, p + 1 ≤ k ∧ (k ≤ m4 ∨ k = p + 1) ∧ m = .int .i64 m4 ∧ i = .int .i64 k ∧ Non (P5 t) (p + 1) k) (fun _ i => n - (intOf i).toNat)
    case atStart => exact ⟨p + 1, Nat.le_refl _, .inr rfl, rfl, by go_num, Non.start _ _⟩
    case round =>
      obtain ⟨k, hk1, hk2, rfl, rfl, hnon⟩ := hrel
      by_cases hlt : k < m4
      · have g1 := hc k (by omega)
        have g2 := hc (k - 1) (by omega)
        obtain ⟨x, hx⟩ : ∃ x, t k = x := ⟨_, rfl⟩
        obtain ⟨y, hy⟩ : ∃ y, t (k - 1) = y := ⟨_, rfl⟩
        rw [hx] at g1
        rw [hy] at g2
        have HX : Hid (t k = x) := hx
        have HY : Hid (t (k - 1) = y) := hy
        clear hx hy hk2
        by_cases hP : x = 35 ∧ y = 32
        · have HP : P5 t k := by unfold P5; rw [HX.out, HY.out]; exact hP
          obtain ⟨hP, hQ⟩ := hP
          subst hP
          subst hQ
          go_wp2
          go_meet
          case rel => exact ⟨k, by omega, by omega, rfl, hnon.hit HP hlt hk1, rfl⟩
        · have HP : ¬ P5 t k := by unfold P5; rw [HX.out, HY.out]; exact hP
          by_cases hx : x = 35
          · subst hx
            have e1 : (y == 32) = false := by simp; omega
            go_wp2
            go_round
            case rel => exact ⟨k + 1, by omega, by omega, rfl, by go_num, hnon.next HP⟩
            case measure => simp [intOf]; omega
          · have e1 : (x == 35) = false := by simp; omega
            go_wp2
            go_round
            case rel => exact ⟨k + 1, by omega, by omega, rfl, by go_num, hnon.next HP⟩
            case measure => simp [intOf]; omega
      · clear hk2
        go_wp2
        go_meet
        case rel => exact ⟨m4, hm4, hm4n, rfl, hnon.past (by omega), rfl⟩
  case rest =>
  obtain ⟨m5, hm5, hm5n, rfl, hf5, rfl⟩ := hcut
  have g1 := hc m5 (by omega)
  have HF : Hid (Fst (P1 t) p (n - 1) m1 ∧ Fst (P2 t) p m1 m2 ∧ Fst (P3 t) p m2 m3 ∧ Fst (P4 t) p m3 m4 ∧ Fst (P5 t) (p + 1) m4 m5) := ⟨hf1, hf2, hf3, hf4, hf5⟩
  clear hf1 hf2 hf3 hf4 hf5 hm1 hm1n hm2 hm2n hm3 hm3n hm4 hm4n
  obtain ⟨x, hx⟩ : ∃ x, t m5 = x := ⟨_, rfl⟩
  rw [hx] at g1
  have HX : Hid (t m5 = x) := hx
  clear hx
  by_cases h58 : x = 58
  · have HR : Hid (fin t p b m5 = (true, trimE t p m5)) := by unfold Hid fin; rw [HX.out, if_pos h58]
    subst h58
    go_wp2_with (go_at_call 28; refine (trim28 g o n c p m5 t _ hn (by omega) hc).mono ?_; rintro e w' ⟨rfl, hw⟩; obtain rfl := hw.symm)
    go_ret2
    exact ⟨m1, m2, m3, m4, m5, hm5, hm5n, HF.out, by rw [HR.out]; rfl, rfl⟩
  have e58 : (x == 58) = false := by simp; omega
  by_cases hQ : x = 44 ∨ x = 93 ∨ x = 125 ∨ x = 10
  · cases b
    · have HR : Hid (fin t p false m5 = (true, trimE t p m5)) := by unfold Hid fin; rw [HX.out, if_neg h58, if_pos hQ]; rfl
      clear e58 h58
      rcases hQ with hQ | hQ | hQ | hQ
      all_goals
        subst hQ
        go_wp2_with (go_at_call 28; refine (trim28 g o n c p m5 t _ hn (by omega) hc).mono ?_; rintro e w' ⟨rfl, hw⟩; obtain rfl := hw.symm)
        go_ret2
        exact ⟨m1, m2, m3, m4, m5, hm5, hm5n, HF.out, by rw [HR.out]; rfl, rfl⟩
    · have HR : Hid (fin t p true m5 = (false, p)) := by unfold Hid fin; rw [HX.out, if_neg h58, if_pos hQ]; rfl
      clear e58 h58
      rcases hQ with hQ | hQ | hQ | hQ
      all_goals
        subst hQ
        go_wp2
        go_ret2
        exact ⟨m1, m2, m3, m4, m5, hm5, hm5n, HF.out, by rw [HR.out]; rfl, rfl⟩
  · have HR : Hid (fin t p b m5 = (false, p)) := by unfold Hid fin; rw [HX.out, if_neg h58, if_neg hQ]
    have e1 : (x == 44) = false := by simp; omega
    have e2 : (x == 93) = false := by simp; omega
    have e3 : (x == 125) = false := by simp; omega
    have e4 : (x == 10) = false := by simp; omega
    go_wp2
    go_ret2
    exact ⟨m1, m2, m3, m4, m5, hm5, hm5n, HF.out, by rw [HR.out]; rfl, rfl⟩
end Go.Proofs.Qxb6603316aMods
