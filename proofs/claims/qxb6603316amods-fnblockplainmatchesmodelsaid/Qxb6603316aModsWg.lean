import Derived.Test.Qxb6603316aModsWf
import Derived.Deep.AppendLies
namespace Go.Proofs.Qxb6603316aMods
open Go.RowKit
set_option linter.unusedVariables false

theorem bytes18 (a : Option Addr) (n c : Nat) (a' : Option Addr) (n' c' : Nat) (p col : Int) (w : World) (h : n ≤ 9223372036854775807) (h' : n' ≤ 9223372036854775807) :
    Calls Trym.prog 18 #[.slice a n c, .int .i64 p, .slice a' n' c', .int .i64 col] w fun e w' => (e = .returned (.bool false) ∨ (e = .returned (.bool true) ∧ n + n' ≤ 1048576)) ∧ w' = w := by
  by_cases h1 : 1048576 < n
  · go_enter Trym.func18, Trym.ntmps18
    go_wp2
    go_ret
    exact ⟨.inl rfl, rfl⟩
  by_cases h2 : 1048576 < n'
  · go_enter Trym.func18, Trym.ntmps18
    go_wp2
    go_ret
    exact ⟨.inl rfl, rfl⟩
  by_cases h3 : 1048576 < n + n'
  · go_enter Trym.func18, Trym.ntmps18
    go_wp2
    go_ret
    exact ⟨.inl rfl, rfl⟩
  · go_enter Trym.func18, Trym.ntmps18
    go_wp2
    go_ret
    exact ⟨.inr ⟨rfl, by omega⟩, rfl⟩

set_option maxHeartbeats 1000000 in
theorem lead32 (g o n c a e : Nat) (t : Nat → Int) (w : World) (hn : n ≤ 1048576) (hae : a ≤ e) (he : e ≤ n) (hc : Txt w g o n t) :
    Calls Trym.prog 32 #[.slice (some ⟨g, o, none⟩) n c, .int .i64 a, .int .i64 e] w fun x w' => x = .returned (.int .i64 ((ledE t a e - a : Nat) : Int)) ∧ w' = w := by
  have HS : Hid _ := ledE_spec t hae
  have h1 := HS.out.1
  have h2 := HS.out.2.1
  obtain ⟨r, hr⟩ : ∃ r, r = ledE t a e := ⟨_, rfl⟩
  rw [← hr] at HS h1 h2 ⊢
  clear hr
  go_enter Trym.func32, Trym.ntmps32
  go_wp2
  go_loop [7] (fun v => ∃ k : Nat, a + k ≤ r ∧ v = .int .i64 k) (fun v => r - (intOf v).toNat)
  case atStart => exact ⟨0, by omega, rfl⟩
  case round =>
    obtain ⟨k, hk, rfl⟩ := hrel
    by_cases hkr : a + k < r
    · have g1 := hc (a + k) (by omega)
      rw [HS.out.2.2.1 (a + k) (by omega) hkr] at g1
      go_wp2
      go_round
      case rel => exact ⟨k + 1, by omega, by go_num⟩
      case measure => simp [intOf]; omega
    · have HK : Hid (r - a = k) := by unfold Hid; omega
      by_cases hre : r < e
      · have g1 := hc (a + k) (by omega)
        obtain ⟨x, hx⟩ : ∃ x, t (a + k) = x := ⟨_, rfl⟩
        rw [hx] at g1
        have hne : x ≠ 32 := by
          have := HS.out.2.2.2 hre
          rw [← hx]
          rw [show a + k = r by omega]
          exact this
        have e32 : (x == 32) = false := by simp [hne]
        clear hx
        go_wp2
        go_ret
        exact ⟨by rw [HK.out]; rfl, rfl⟩
      · go_wp2
        go_ret
        exact ⟨by rw [HK.out]; rfl, rfl⟩

set_option maxHeartbeats 2000000 in
theorem piece31 (g o n c a e : Nat) (t : Nat → Int) (w : World) (hn : n ≤ 1048576) (hae : a < e) (he : e < n) (hc : Txt w g o n t) (hl : t (n - 1) = 10) (h10 : t e = 10) (hnon : Non (P1 t) a e) :
    Calls Trym.prog 31 #[.slice (some ⟨g, o, none⟩) n c, .int .i64 a, .int .i64 e] w fun x w' =>
      ((colonB t n a = true ∧ x = .returned (.tuple #[.bool false, .int .i64 0, .int .i64 (stopOf t n a)])) ∨
       (colonB t n a = false ∧ x = .returned (.tuple #[.bool true, .int .i64 (cutOf t n a), .int .i64 (stopOf t n a)]))) ∧ w' = w := by
  have ha : a < n := by omega
  have HF : Hid (Fst (PS t a) a (n - 1) (stopOf t n a)) := stopOf_fst t ha
  have HP : Hid (PS t a (stopOf t n a)) := stopOf_ps t ha hl
  have HC : Hid (cutOf t n a = trimE t a (stopOf t n a)) := rfl
  have hcg : Hid (∀ k, a ≤ k → k < stopOf t n a → P3 t k → colonB t n a = true) := fun k => colon_yes
  have hcn : Hid (Non (P3 t) a (stopOf t n a) → colonB t n a = false) := colon_no
  have hs1 : a < stopOf t n a := by
    have h1 := stopOf_ge t n a
    rcases Nat.lt_or_ge a (stopOf t n a) with h | h
    · exact h
    · have e1 : stopOf t n a = a := by omega
      have := HP.out
      rw [e1] at this
      rcases this with h | h
      · exact absurd h (hnon a (Nat.le_refl _) hae)
      · omega
  have hs2 : stopOf t n a ≤ e := by
    rcases Nat.lt_or_ge e (stopOf t n a) with h | h
    · exact absurd (.inl h10) (HF.out.2.1 e (by omega) h)
    · exact h
  have hs3 : Hid (stopOf t n a < e → t (stopOf t n a) = 35 ∧ t (stopOf t n a - 1) = 32) := fun h => by
    rcases HP.out with h1 | h1
    · exact absurd h1 (hnon _ (by omega) h)
    · exact ⟨h1.1, h1.2.2⟩
  have Hnon : Hid (Non (P1 t) a e) := hnon
  clear hl h10 hnon HP
  obtain ⟨s, hs⟩ : ∃ s, s = stopOf t n a := ⟨_, rfl⟩
  rw [← hs] at HF HC hs1 hs2 hs3 hcg hcn ⊢
  clear hs
  go_enter Trym.func31, Trym.ntmps31
  go_upto_block 0 with fail
  go_cut [9] (fun v wx => v = .int .i64 s ∧ w = wx)
  case first =>
    go_wp2_with fail
    go_loop [9, 10] (fun v i => ∃ k : Nat, a < k ∧ k ≤ s ∧ v = .int .i64 e ∧ i = .int .i64 k) (fun _ i => n - (intOf i).toNat)
    case atStart => exact ⟨a + 1, by omega, by omega, rfl, by go_num⟩
    case round =>
      obtain ⟨k, hk1, hk2, rfl, rfl⟩ := hrel
      by_cases hks : k < s
      · have g1 := hc k (by omega)
        have g2 := hc (k - 1) (by omega)
        have hnp : ¬ PS t a k := HF.out.2.1 k (by omega) hks
        unfold PS at hnp
        obtain ⟨x, hx⟩ : ∃ x, t k = x := ⟨_, rfl⟩
        obtain ⟨y, hy⟩ : ∃ y, t (k - 1) = y := ⟨_, rfl⟩
        rw [hx] at g1
        rw [hy] at g2
        rw [hx, hy] at hnp
        clear hx hy
        by_cases h35 : x = 35
        · have e32 : (y == 32) = false := by simp; omega
          clear hnp
          subst h35
          go_wp2
          go_round
          case rel => exact ⟨k + 1, by omega, by omega, rfl, by go_num⟩
          case measure => simp [intOf]; omega
        · have e35 : (x == 35) = false := by simp; omega
          clear hnp
          go_wp2
          go_round
          case rel => exact ⟨k + 1, by omega, by omega, rfl, by go_num⟩
          case measure => simp [intOf]; omega
      · obtain rfl : k = s := by omega
        by_cases hke : k < e
        · have g1 := hc k (by omega)
          have g2 := hc (k - 1) (by omega)
          rw [(hs3.out hke).1] at g1
          rw [(hs3.out hke).2] at g2
          go_wp2
          go_meet
          case rel => exact ⟨rfl, rfl⟩
        · obtain rfl : k = e := by omega
          go_wp2
          go_meet
          case rel => exact ⟨rfl, rfl⟩
  case rest =>
  obtain ⟨rfl, rfl⟩ := hcut
  go_wp2_with fail
  go_loop [11] (fun i => ∃ k : Nat, a ≤ k ∧ k ≤ s ∧ i = .int .i64 k ∧ Non (P3 t) a k) (fun i => n - (intOf i).toNat)
  case atStart => exact ⟨a, by omega, by omega, rfl, Non.start _ _⟩
  case round =>
    obtain ⟨k, hk1, hk2, rfl, hno⟩ := hrel
    by_cases hks : k < s
    · have g1 := hc k (by omega)
      have g2 := hc (k + 1) (by omega)
      obtain ⟨x, hx⟩ : ∃ x, t k = x := ⟨_, rfl⟩
      obtain ⟨y, hy⟩ : ∃ y, t (k + 1) = y := ⟨_, rfl⟩
      rw [hx] at g1
      rw [hy] at g2
      have HX : Hid (t k = x) := hx
      have HY : Hid (t (k + 1) = y) := hy
      clear hx hy
      by_cases h58 : x = 58
      · by_cases hyy : y = 32 ∨ y = 10
        · have Hcy : Hid (colonB t n a = true) := hcg.out k hk1 hks ⟨HX.out.trans h58, by rw [HY.out]; exact hyy⟩
          clear hcg hcn
          subst h58
          rcases hyy with hyy | hyy
          all_goals
            subst hyy
            go_wp2
            go_ret3
            exact ⟨.inl ⟨Hcy.out, rfl⟩, rfl⟩
        · have HN : ¬ P3 t k := by unfold P3; rw [HX.out, HY.out]; omega
          have e1 : (y == 32) = false := by simp; omega
          have e2 : (y == 10) = false := by simp; omega
          subst h58
          go_wp2
          go_round
          case rel => exact ⟨k + 1, by omega, by omega, by go_num, hno.next HN⟩
          case measure => simp [intOf]; omega
      · have HN : ¬ P3 t k := by unfold P3; rw [HX.out, HY.out]; omega
        have e1 : (x == 58) = false := by simp; omega
        go_wp2
        go_round
        case rel => exact ⟨k + 1, by omega, by omega, by go_num, hno.next HN⟩
        case measure => simp [intOf]; omega
    · obtain rfl : k = s := by omega
      have Hcn : Hid (colonB t n a = false) := hcn.out hno
      go_wp2_with (go_at_call 28; refine (trim28 g o n c a k t _ hn (by omega) hc).mono ?_; rintro e w' ⟨rfl, hw⟩; obtain rfl := hw.symm)
      go_ret3
      exact ⟨.inr ⟨Hcn.out, by rw [HC.out]; rfl⟩, rfl⟩

end Go.Proofs.Qxb6603316aMods
