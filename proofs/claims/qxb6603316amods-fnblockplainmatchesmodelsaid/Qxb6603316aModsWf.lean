import Derived.Test.Qxb6603316aModsPb
import Derived.Test.Qxb6603316aModsWe
namespace Go.Proofs.Qxb6603316aMods
open Go.RowKit
set_option linter.unusedVariables false

set_option maxRecDepth 100000 in
set_option maxHeartbeats 2000000 in
theorem line36 (B g n a : Nat) (t : Nat → Int) (w : World) (hn : n ≤ 1048576) (ha : a < n) (hl : t (n - 1) = 10) (h32 : t a ≠ 32) (h10 : t a ≠ 10) (hc : Txt w g 0 n t)
    (h0 : w.cell? ⟨B, 0, none⟩ = some (.slice (some ⟨g, 0, none⟩) n n)) :
    Calls Trym.prog 36 #[.pointer (some ⟨B, 0, none⟩), .int .i64 a] w fun e w' =>
      ((colonB t n a = true ∧ e = .returned (.tuple #[.slice none 0 0, .int .i64 0, .bool false])) ∨
       (colonB t n a = false ∧ e = .returned (.tuple #[.slice (some ⟨g, a, none⟩) (cutOf t n a - a) (n - a), .int .i64 (stopOf t n a), .bool true]))) ∧ w' = w := by
  have HL : Hid (t (n - 1) = 10) := hl
  have HF : Hid (Fst (PS t a) a (n - 1) (stopOf t n a)) := stopOf_fst t ha
  have HP : Hid (PS t a (stopOf t n a)) := stopOf_ps t ha hl
  have HC : Hid (cutOf t n a = trimE t a (stopOf t n a)) := rfl
  have hsl := stopOf_lt t ha
  have hsg := stopOf_ge t n a
  have hcg : Hid (∀ k, a ≤ k → k < stopOf t n a → P3 t k → colonB t n a = true) := fun k => colon_yes
  have hcn : Hid (Non (P3 t) a (stopOf t n a) → colonB t n a = false) := colon_no
  have Ht : Hid (t a ≠ 32 ∧ t a ≠ 10) := ⟨h32, h10⟩
  clear hl h32 h10
  obtain ⟨s, hs⟩ : ∃ s, s = stopOf t n a := ⟨_, rfl⟩
  rw [← hs] at HF HP HC hsl hsg hcg hcn ⊢
  clear hs
  go_enter Trym.func36, Trym.ntmps36
  go_wp2
  go_loop [1, 8] (fun i e => ∃ k : Nat, a ≤ k ∧ k ≤ s ∧ i = .int .i64 k ∧ e = .int .i64 (trimE t a k) ∧ Non (P3 t) a k) (fun i _ => n - (intOf i).toNat)
  case atStart => exact ⟨a, Nat.le_refl _, hsg, rfl, by rw [trimE_self], Non.start _ _⟩
  case round =>
    obtain ⟨k, hk1, hk2, rfl, rfl, hnon⟩ := hrel
    have hr1 := trimE_le t a k
    have hr2 := trimE_ge t a k hk1
    have g1 := hc k (by omega)
    obtain ⟨x, hx⟩ : ∃ x, t k = x := ⟨_, rfl⟩
    rw [hx, Nat.zero_add] at g1
    have HX : Hid (t k = x) := hx
    clear hx
    by_cases hks : k = s
    · have HS : Hid (k = s) := hks
      have hps : PS t a k := by rw [hks]; exact HP.out
      have hcn' := hcn.out (hks ▸ hnon)
      have Hcn : Hid (colonB t n a = false) := hcn'
      have HCK : Hid (cutOf t n a = trimE t a k) := by rw [Hid, hks]; exact HC.out
      have hak : a < k := by
        rcases hps with h | h
        · have := Ht.out.2
          have : a ≠ k := by rintro rfl; exact this h
          omega
        · exact h.2.1
      clear hcn'
      subst hks
      unfold PS at hps
      rw [HX.out] at hps
      rcases hps with h | ⟨h, _, hy⟩
      · subst h
        go_wp2
        go_ret3
        exact ⟨.inr ⟨Hcn.out, by rw [HCK.out]; rfl⟩, rfl⟩
      · have g2 := hc (k - 1) (by omega)
        rw [hy, Nat.zero_add] at g2
        have hka : ((k : Int) == (a : Int)) = false := by simp; omega
        clear hy
        subst h
        go_wp2
        go_ret3
        exact ⟨.inr ⟨Hcn.out, by rw [HCK.out]; rfl⟩, rfl⟩
    have hlt : k < s := by omega
    have hnp : ¬ PS t a k := HF.out.2.1 k hk1 hlt
    unfold PS at hnp
    rw [HX.out] at hnp
    have e10 : (x != 10) = true := by simp; omega
    by_cases h35 : x = 35
    · have HN : ¬ P3 t k := by unfold P3; rw [HX.out]; omega
      have HT : Hid (trimE t a (k + 1) = k + 1) := trimE_no t a k (by rw [HX.out]; omega)
      by_cases hka : k = a
      · subst hka
        clear hnp e10 hcg hcn HF HP
        subst h35
        go_wp2
        go_round
        case rel => exact ⟨k + 1, by omega, by omega, by go_num, by rw [HT.out]; go_num, hnon.next HN⟩
        case measure => simp [intOf]; omega
      · have hak : a < k := by omega
        have hka' : ((k : Int) == (a : Int)) = false := by simp; omega
        have g2 := hc (k - 1) (by omega)
        obtain ⟨y, hy⟩ : ∃ y, t (k - 1) = y := ⟨_, rfl⟩
        rw [hy] at hnp
        rw [hy, Nat.zero_add] at g2
        have e32 : (y != 32) = true := by simp; omega
        clear hy hnp e10 hcg hcn HF HP hka
        subst h35
        go_wp2
        go_round
        case rel => exact ⟨k + 1, by omega, by omega, by go_num, by rw [HT.out]; go_num, hnon.next HN⟩
        case measure => simp [intOf]; omega
    have e35 : (x != 35) = true := by simp; omega
    clear hnp HP HF
    by_cases h58 : x = 58
    · have g2 := hc (k + 1) (by omega)
      obtain ⟨y, hy⟩ : ∃ y, t (k + 1) = y := ⟨_, rfl⟩
      rw [hy, Nat.zero_add] at g2
      have HY : Hid (t (k + 1) = y) := hy
      clear hy
      by_cases hyy : y = 32 ∨ y = 10
      · have Hcy : Hid (colonB t n a = true) := hcg.out k hk1 hlt ⟨HX.out.trans h58, by rw [HY.out]; exact hyy⟩
        clear e10 e35 hcg hcn h35
        subst h58
        rcases hyy with hyy | hyy
        all_goals
          subst hyy
          go_wp2
          go_ret3
          exact ⟨.inl ⟨Hcy.out, rfl⟩, rfl⟩
      · have HN : ¬ P3 t k := by unfold P3; rw [HX.out, HY.out]; omega
        have HT : Hid (trimE t a (k + 1) = k + 1) := trimE_no t a k (by rw [HX.out]; omega)
        have e1 : (y == 32) = false := by simp; omega
        have e2 : (y == 10) = false := by simp; omega
        clear e10 e35 hcg hcn h35
        subst h58
        go_wp2
        go_round
        case rel => exact ⟨k + 1, by omega, by omega, by go_num, by rw [HT.out]; go_num, hnon.next HN⟩
        case measure => simp [intOf]; omega
    have e58 : (x == 58) = false := by simp; omega
    have HN : ¬ P3 t k := by unfold P3; rw [HX.out]; omega
    by_cases h32 : x = 32
    · have HT : Hid (trimE t a (k + 1) = trimE t a k) := trimE_sp t a k hk1 (by rw [HX.out]; omega)
      clear e10 e35 e58 hcg hcn h35 h58
      subst h32
      go_wp2
      go_round
      case rel => exact ⟨k + 1, by omega, by omega, by go_num, by rw [HT.out], hnon.next HN⟩
      case measure => simp [intOf]; omega
    · have HT : Hid (trimE t a (k + 1) = k + 1) := trimE_no t a k (by rw [HX.out]; omega)
      have e32 : (x != 32) = true := by simp; omega
      clear hcg hcn
      go_wp2
      go_round
      case rel => exact ⟨k + 1, by omega, by omega, by go_num, by rw [HT.out]; go_num, hnon.next HN⟩
      case measure => simp [intOf]; omega

end Go.Proofs.Qxb6603316aMods
