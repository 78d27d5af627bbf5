import Derived.Test.Qxb6603410aModsWa
import Derived.Deep.RegionHeld
namespace Go.Proofs.Qxb6603410aMods
open Go.RowKit
set_option linter.unusedVariables false
set_option linter.unusedSimpArgs false

/-- the made row of pairs, k of them filled -/
def Made (b gp n k : Nat) (u t : Nat → ByteArray) (wr : World) : Prop :=
  ∃ xs, wr.ownsRow b 54 2 (.slice (some ⟨gp, 0, none⟩) n n) n xs ∧ ∀ i, i < k → xs[i * 2]? = some (.string (u i)) ∧ xs[i * 2 + 1]? = some (.string (t i))

theorem Made.step {b : Nat} {wr : World} {gp n k : Nat} {u t : Nat → ByteArray} (h : Made b gp n k u t wr) (hk : k < n) :
    Made b gp n (k + 1) u t ((wr.setCell ⟨gp, k * 2, none⟩ (.string (u k))).setCell ⟨gp, k * 2 + 1, none⟩ (.string (t k))) := by
  obtain ⟨xs, hown, hxs⟩ := h
  have hlen : xs.length = n * 2 := hown.1
  have h1 := (hown.stored (k * 2) (.string (u k))).1
  have h2 := (h1.stored (k * 2 + 1) (.string (t k))).1
  refine ⟨_, h2, fun i hi => ?_⟩
  by_cases hik : i = k
  · subst hik
    refine ⟨?_, ?_⟩
    · rw [List.getElem?_set_ne (by omega), List.getElem?_set_self (by omega)]
    · rw [List.getElem?_set_self (by simp; omega)]
  · have := hxs i (by omega)
    refine ⟨?_, ?_⟩
    · rw [List.getElem?_set_ne (by omega), List.getElem?_set_ne (by omega)]; exact this.1
    · rw [List.getElem?_set_ne (by omega), List.getElem?_set_ne (by omega)]; exact this.2

theorem Made.pairs {b : Nat} {wr : World} {gp n : Nat} {u t : Nat → ByteArray} (h : Made b gp n n u t wr) : Pairs wr gp 0 n u t := by
  obtain ⟨xs, hown, hxs⟩ := h
  intro i hi
  have := hxs i hi
  rw [Nat.zero_add]
  refine ⟨?_, ?_⟩
  · rw [hown.cellAt (i * 2) (by omega)]; exact this.1
  · rw [hown.cellAt (i * 2 + 1) (by omega)]; exact this.2

theorem res18_nil (w : World) : Calls Trym.prog 18 #[.slice none 0 0] w fun e w' => e = .returned (.slice none 0 0) ∧ w' = w := by
  have q30 : ∀ (w : World) (a : Option Addr) (n c n' c' : Nat), (binOp .eql 30 (.slice a n c) (.slice none n' c')).run Trym.prog w = .ok (.bool a.isNone) w := fun w a n c n' c' => Lib.run_eql_slice_nil w _ _ a n c n' c' Trym.underlying30
  go_enter Trym.func18, Trym.ntmps18
  go_wp2
  go_ret
  exact ⟨rfl, rfl⟩

set_option maxHeartbeats 1000000 in
theorem res18_some (x : Addr) (n c : Nat) (u t : Nat → ByteArray) (w : World) (hn : n ≤ 32768) (h : PArg w (some x) n c u t) :
    Calls Trym.prog 18 #[.slice (some x) n c] w fun e w' => e = .returned (.slice (some ⟨w.heap.size, 0, none⟩) n n) ∧ w.heap.size < w'.heap.size ∧ Pairs w' w.heap.size 0 n u t ∧ Below w.heap.size w w' := by
  have q30 : ∀ (w : World) (a : Option Addr) (n c n' c' : Nat), (binOp .eql 30 (.slice a n c) (.slice none n' c')).run Trym.prog w = .ok (.bool a.isNone) w := fun w a n c n' c' => Lib.run_eql_slice_nil w _ _ a n c n' c' Trym.underlying30
  obtain ⟨i0, hi, hz0, hz1, hz2⟩ := info_parts Trym.info54
  go_enter Trym.func18, Trym.ntmps18
  go_wp2_with (at_make; refine wpList_make_full _ rfl _ _ 34 rfl w.heap.size 54 i0 (.agg #[.string ⟨#[]⟩, .string ⟨#[]⟩]) 2 Trym.underlying34 hi hz0 hz1 _ _ _ _ n rfl rfl rfl rfl ?b2 ?b3 (Nat.le_refl _) ?_)
  case b2 => rw [hz2]; omega
  case b3 => unfold maxLen; omega
  intro w0 hown0 hgrow0
  go_wp2
  go_loopg [4] n (fun gk v wr => ∃ k, k + gk = n ∧ v = .int .i64 k ∧ Made w.heap.size w.heap.size n k u t wr ∧ Below w.heap.size w wr)
  case atStart => exact ⟨0, by omega, rfl, ⟨_, hown0, fun i hi => by omega⟩, (Below.refl _ _).grown hgrow0 (Nat.le_refl _) (fun k h => by cases h)⟩
  case round =>
    obtain ⟨k, hkg, rfl, hMd, hb⟩ := hrel
    have hMd2 := hMd
    obtain ⟨xs, hown, hxs⟩ := hMd2
    clear hxs
    by_cases hlt : k < n
    · obtain ⟨g, o, hx, hg, g0, g1⟩ := h.cell hlt
      injection hx with hx
      subst hx
      have g0 := (hb.cell (p := ⟨g, o + k * 2, none⟩) hg).trans g0
      have g1 := (hb.cell (p := ⟨g, o + k * 2 + 1, none⟩) hg).trans g1
      have hlen : xs.length = n * 2 := hown.1
      have d0 : wr.cell? ⟨w.heap.size, k * 2, none⟩ = some (xs[k * 2]'(by omega)) := by rw [hown.cellAt (k * 2) (by omega)]; simp
      have d1 : wr.cell? ⟨w.heap.size, k * 2 + 1, none⟩ = some (xs[k * 2 + 1]'(by omega)) := by rw [hown.cellAt (k * 2 + 1) (by omega)]; simp
      have f0 := hown.frozenAt (k * 2)
      have f1 := hown.frozenAt (k * 2 + 1)
      go_wp2
      go_region
      all_goals
        go_wp2
        go_roundg (gk - 1)
        case measure => omega
        case rel => exact ⟨k + 1, by omega, by go_num, hMd.step hlt, ((hb.setCell (by simp) _).setCell (by simp) _).drew⟩
    · have HK : Hid (k = n) := by unfold Hid; omega
      have hlt' := (hown.lt _ rfl).2
      go_wp2
      go_ret
      have hMd' := hMd
      rw [HK.out] at hMd'
      exact ⟨rfl, hlt', hMd'.pairs, hb⟩

/-- what toResDocs hands out -/
def Docs (w : World) (n : Nat) (u t : Nat → ByteArray) (v : Value) : Prop := (n = 0 ∧ v = .slice none 0 0) ∨ ∃ g, v = .slice (some ⟨g, 0, none⟩) n n ∧ g < w.heap.size ∧ Pairs w g 0 n u t

theorem res18 (a : Option Addr) (n c : Nat) (u t : Nat → ByteArray) (w : World) (hn : n ≤ 32768) (h : PArg w a n c u t) :
    Calls Trym.prog 18 #[.slice a n c] w fun e w' => ∃ v, e = .returned v ∧ Docs w' n u t v ∧ Below w.heap.size w w' := by
  rcases h with ⟨rfl, rfl, rfl⟩ | ⟨x, rfl, h⟩
  · refine (res18_nil w).mono ?_
    rintro e w' ⟨rfl, rfl⟩
    exact ⟨_, rfl, .inl ⟨rfl, rfl⟩, Below.refl _ _⟩
  · refine (res18_some x n c u t w hn (.inr ⟨x, rfl, h⟩)).mono ?_
    rintro e w' ⟨rfl, h1, h2, h3⟩
    exact ⟨_, rfl, .inr ⟨_, rfl, h1, h2⟩, h3⟩

def strsOf (u : Nat → ByteArray) (l : List Nat) : List Value := l.map fun i => .string (u i)
theorem strsOf_snoc (u : Nat → ByteArray) (l : List Nat) (k : Nat) : strsOf u (l ++ [k]) = strsOf u l ++ [.string (u k)] := by simp [strsOf]

/-- a slice of so many -/
def LenIs (m : Nat) (v : Value) : Prop := ∃ a c, v = .slice a m c

theorem lost_zero (w : World) : Calls Trym.prog 30 #[.slice none 0 0] w fun e w' => e = .returned (.slice none 0 0) ∧ w' = w := by
  go_enter Trym.func30, Trym.ntmps30
  go_wp2
  go_loop [3, 8] (fun v i => v = .slice none 0 0 ∧ i = .int .i64 0) (fun _ _ => 0)
  case atStart => exact ⟨rfl, rfl⟩
  case round =>
    obtain ⟨rfl, rfl⟩ := hrel
    go_wp2
    go_ret
    exact ⟨rfl, rfl⟩

set_option maxRecDepth 100000 in
set_option maxHeartbeats 1000000 in
theorem lost_some (g n c : Nat) (u t : Nat → ByteArray) (w : World) (hn : n ≤ 32768) (hg : g < w.heap.size) (hp : Pairs w g 0 n u t) :
    Calls Trym.prog 30 #[.slice (some ⟨g, 0, none⟩) n c] w fun e w' => ∃ v, e = .returned v ∧ w'.ownsRow w.heap.size 9 1 v (lo t n).length (strsOf u (lo t n)) ∧ Below w.heap.size w w' := by
  obtain ⟨i0, hi, hz0, hz1, hz2⟩ := info_parts Trym.info9
  go_enter Trym.func30, Trym.ntmps30
  go_wp2
  go_loopg [3, 8] n (fun gk v i wr => ∃ k, k + gk = n ∧ i = .int .i64 k ∧ wr.ownsRow w.heap.size 9 1 v (lo t k).length (strsOf u (lo t k)) ∧ Below w.heap.size w wr)
  case atStart => exact ⟨0, by omega, rfl, World.ownsRow_nil _ _ _ _, Below.refl _ _⟩
  case round =>
    obtain ⟨k, hkg, rfl, hown, hb⟩ := hrel
    by_cases hlt : k < n
    · obtain ⟨d1, d2⟩ := hp k hlt
      rw [Nat.zero_add] at d1 d2
      have d1 := (hb.cell (p := ⟨g, k * 2, none⟩) hg).trans d1
      have d2 := (hb.cell (p := ⟨g, k * 2 + 1, none⟩) hg).trans d2
      have hbs := hb.size
      have hkl := lo_len t k
      cases hT : ((t k).toList == [108, 111, 115, 116])
      · have HK : Hid (lo t (k + 1) = lo t k) := lo_no hT
        go_wp2
        go_roundg (gk - 1)
        case measure => omega
        case rel => exact ⟨k + 1, by omega, by go_num, by rw [HK.out]; exact (hown.alloc _), hb.alloc hbs _⟩
      · have HK : Hid (lo t (k + 1) = lo t k ++ [k]) := lo_yes hT
        go_wp2_with (at_builtin; refine wpList_append_lies _ rfl (.tmp 15) (.tmp 18) 22 rfl w.heap.size 9 i0 (.string ⟨#[]⟩) 1 16 Trym.underlying22 hi hz0 hz1 hz2 rfl (by decide) _ _ _ rfl ((hown.alloc _).alloc _) ⟨wr.heap.size + 1, 0, none⟩ 1 1 [.string (u k)] rfl rfl ?c1 ?c2 (by decide) ?c3 ?c4 ?c5 _ rfl ?_)
        case c1 =>
          intro j v hj
          match j, hj with
          | 0, hj => simp at hj; subst hj; simp [Addr.add]
        case c2 => intro v hv; simp at hv; rcases hv with rfl; rfl
        case c3 => unfold maxLen; omega
        case c4 => omega
        case c5 => first | omega | (simp; omega)
        intro g' cap w2 hown2 hgrow hat hlt2
        have hbb : Below w.heap.size w w2 := (((hb.alloc hbs _).alloc (by simp; omega) _).grown hgrow (by simp; omega) (fun k hk => (hown.lt k hk).1))
        clear hgrow hat d1 d2
        go_wp2
        go_roundg (gk - 1)
        case measure => omega
        case rel => exact ⟨k + 1, by omega, by go_num, by rw [HK.out, strsOf_snoc, List.length_append]; exact hown2, hbb⟩
    · have HK : Hid (k = n) := by unfold Hid; omega
      go_wp2
      go_ret
      exact ⟨_, rfl, HK.out ▸ hown, hb⟩

theorem lenIs_of_owns {wr : World} {b m : Nat} {v : Value} {xs : List Value} (h : wr.ownsRow b 9 1 v m xs) : LenIs m v := by
  rcases h.2 with ⟨hv, h0⟩ | ⟨g, cap, cur, hv, _⟩
  · subst h0; exact ⟨_, _, hv⟩
  · exact ⟨_, _, hv⟩

theorem lost30 (v : Value) (n : Nat) (u t : Nat → ByteArray) (w : World) (hn : n ≤ 32768) (h : Docs w n u t v) :
    Calls Trym.prog 30 #[v] w fun e w' => ∃ v, e = .returned v ∧ LenIs (lo t n).length v ∧ Below w.heap.size w w' := by
  rcases h with ⟨rfl, rfl⟩ | ⟨g, rfl, h1, h2⟩
  · refine (lost_zero w).mono ?_
    rintro e w' ⟨rfl, rfl⟩
    exact ⟨_, rfl, ⟨_, _, rfl⟩, Below.refl _ _⟩
  · refine (lost_some g n n u t w hn h1 h2).mono ?_
    rintro e w' ⟨v, rfl, h3, h4⟩
    exact ⟨_, rfl, lenIs_of_owns h3, h4⟩

theorem lost17 (v : Value) (n : Nat) (u t : Nat → ByteArray) (w : World) (hn : n ≤ 32768) (h : Docs w n u t v) :
    Calls Trym.prog 17 #[v] w fun e w' => ∃ v, e = .returned v ∧ LenIs (lo t n).length v ∧ Below w.heap.size w w' := by
  go_enter Trym.func17, Trym.ntmps17
  go_wp2_with fail
  refine (lost30 v n u t _ hn h).mono ?_
  rintro e w' ⟨v, rfl, h1, h2⟩
  go_wp2
  go_ret
  exact ⟨_, rfl, h1, h2⟩

set_option maxHeartbeats 1000000 in
theorem walk (a : Option Addr) (n c : Nat) (u t : Nat → ByteArray) (w : World) (h : PArg w a n c u t) :
    Calls Trym.prog 7 #[.slice a n c] w fun e w' => e = .returned (.bool true) ∧ Below w.heap.size w w' := by
  go_enter Trym.func7, Trym.ntmps7
  go_wp2_with fail
  refine (bytes21 a n c u t _ h).mono ?_
  rintro e w' ⟨⟨bb, rfl⟩, hw⟩
  obtain rfl := hw.symm
  cases bb
  · go_wp2
    go_ret
    exact ⟨rfl, Below.refl _ _⟩
  go_wp2_with fail
  refine (res16 a n c u t _ h).mono ?_
  rintro e w' ⟨⟨r, rfl, hr0, hr1, hr2⟩, hw⟩
  obtain rfl := hw.symm
  by_cases hr : 1048576 < r
  · go_wp2
    go_ret
    exact ⟨rfl, Below.refl _ _⟩
  have hn : n ≤ 32768 := hr2 (by omega)
  clear hr2
  go_wp2_with fail
  refine (strs22 a n c u t _ hn h).mono ?_
  rintro e w1 ⟨rfl, l1, s1, b1⟩
  go_wp2_with fail
  refine (stat12 _ n n t _ hn l1 s1).mono ?_
  rintro e w2 ⟨rfl, l2, s2, b2⟩
  go_wp2_with fail
  refine (settled13 _ n n t _ hn s2).mono ?_
  rintro e w' ⟨rfl, hw⟩
  obtain rfl := hw.symm
  have B2 : Below w.heap.size w w2 := b1.trans (b2.mono (by have := b1.size; omega))
  have h2 := h.below B2
  clear s1 s2 b1 b2 l1 l2
  go_wp2_with fail
  refine (res18 a n c u t _ hn h2).mono ?_
  rintro e w3 ⟨v, rfl, hd, b3⟩
  go_wp2_with fail
  refine (lost17 v n u t _ hn hd).mono ?_
  rintro e w4 ⟨v4, rfl, ⟨a4, c4, rfl⟩, b4⟩
  have B3 : Below w.heap.size w w3 := B2.trans (b3.mono (by have := B2.size; omega))
  have B4 : Below w.heap.size w w4 := B3.trans (b4.mono (by have := B3.size; omega))
  have h4 := h.below B4
  clear hd b3 b4 h2 h
  obtain ⟨m, hm⟩ : ∃ m, m = (lo t n).length := ⟨_, rfl⟩
  rw [← hm]
  have hmn : m ≤ 32768 := by have := lo_len t n; omega
  have HM : Hid (m = (lo t n).length) := hm
  clear hm
  go_wp2_with fail
  go_loop [5, 6] (fun l i => ∃ (k : Nat), k ≤ n ∧ l = .bool (!Reg t k) ∧ i = .int .i64 k) (fun _ i => n - (intOf i).toNat)
  case atStart => exact ⟨0, by omega, rfl, rfl⟩
  case round =>
    obtain ⟨k, hk, rfl, rfl⟩ := hrel
    by_cases hlt : k < n
    · obtain ⟨g, o, rfl, _, g0, g1⟩ := h4.cell hlt
      cases hr : ((t k).toList == [114, 101, 103, 105, 115, 116, 101, 114, 101, 100])
      · have HR : Hid (Reg t (k + 1) = Reg t k) := by unfold Hid; rw [Reg_succ, hr, Bool.or_false]
        go_wp2
        go_round
        case rel => exact ⟨k + 1, by omega, by rw [HR.out], by go_num⟩
        case measure => simp [intOf]; omega
      · have HR : Hid (Reg t (k + 1) = true) := by unfold Hid; rw [Reg_succ, hr, Bool.or_true]
        go_wp2
        go_round
        case rel => exact ⟨k + 1, by omega, by rw [HR.out]; rfl, by go_num⟩
        case measure => simp [intOf]; omega
    · have HK : Hid (k = n) := by unfold Hid; omega
      have HR : Hid (Reg t k = Reg t n) := by rw [← HK.out]; rfl
      cases hR : Reg t k
      · by_cases hm0 : 0 < m
        · have hs : setl t n = { data := #[104, 101, 117, 114, 105, 115, 116, 105, 99] } := by
            have hl : Los t n = true := by
              unfold Los
              have := HM.out
              cases hx : lo t n with
              | nil => rw [hx] at this; simp at this; omega
              | cons x l => rfl
            unfold setl; rw [← HR.out, hR, hl]; rfl
          rw [hs]
          have hm1 : ((m : Int) == 0) = false := by simp; omega
          go_wp2
          go_ret
          exact ⟨rfl, B4⟩
        · obtain rfl : m = 0 := by omega
          have hs : setl t n = { data := #[99, 111, 110, 102, 105, 114, 109, 101, 100] } := by
            have hl : Los t n = false := by
              unfold Los
              have := HM.out
              cases hx : lo t n with
              | nil => rfl
              | cons x l => rw [hx] at this; simp at this
            unfold setl; rw [← HR.out, hR, hl]; rfl
          rw [hs]
          go_wp2
          go_ret
          exact ⟨rfl, B4⟩
      · have hs : setl t n = { data := #[99, 111, 110, 102, 105, 114, 109, 105, 110, 103] } := by
          unfold setl; rw [← HR.out, hR]; rfl
        rw [hs]
        go_wp2
        go_ret
        exact ⟨rfl, B4⟩

end Go.Proofs.Qxb6603410aMods
