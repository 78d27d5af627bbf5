import Derived.Test.Qxb6603339aModsWc
namespace Go.Proofs.Qxb6603339aMods
open Go.RowKit
set_option linter.unusedVariables false
set_option linter.unusedSimpArgs false

/-- a slice of strings that came in -/
def SArg (w : World) (a : Option Addr) (n c : Nat) (s : Nat → ByteArray) : Prop := (a = none ∧ n = 0 ∧ c = 0) ∨ ∃ x, a = some x ∧ (0 < n → ∃ g o, x = ⟨g, o, none⟩ ∧ g < w.heap.size ∧ Strs w g o n s)
def IArg (w : World) (a : Option Addr) (n c : Nat) (z : Nat → Int) : Prop := (a = none ∧ n = 0 ∧ c = 0) ∨ ∃ x, a = some x ∧ (0 < n → ∃ g o, x = ⟨g, o, none⟩ ∧ g < w.heap.size ∧ I32s w g o n z)

theorem SArg.row {w : World} {a : Option Addr} {n c : Nat} {s : Nat → ByteArray} (h : SArg w a n c s) : SRow w a n s := by
  rcases h with ⟨_, h, _⟩ | ⟨x, rfl, h⟩
  · exact .inl h
  · by_cases h0 : n = 0
    · exact .inl h0
    · obtain ⟨g, o, rfl, h1, h2⟩ := h (by omega)
      exact .inr ⟨g, o, rfl, h1, h2⟩

theorem SArg.below {w w' : World} {a : Option Addr} {n c : Nat} {s : Nat → ByteArray} (h : SArg w a n c s) (hb : Below w.heap.size w w') : SArg w' a n c s := by
  rcases h with h | ⟨x, rfl, h⟩
  · exact .inl h
  · refine .inr ⟨x, rfl, fun h0 => ?_⟩
    obtain ⟨g, o, rfl, h1, h2⟩ := h h0
    exact ⟨g, o, rfl, by have := hb.size; omega, fun i hi => (hb.cell h1).trans (h2 i hi)⟩
theorem IArg.below {w w' : World} {a : Option Addr} {n c : Nat} {s : Nat → Int} (h : IArg w a n c s) (hb : Below w.heap.size w w') : IArg w' a n c s := by
  rcases h with h | ⟨x, rfl, h⟩
  · exact .inl h
  · refine .inr ⟨x, rfl, fun h0 => ?_⟩
    obtain ⟨g, o, rfl, h1, h2⟩ := h h0
    exact ⟨g, o, rfl, by have := hb.size; omega, fun i hi => (hb.cell h1).trans (h2 i hi)⟩

/-- a slice of strings of the call's own, full -/
def SOwn (w : World) (a : Option Addr) (n : Nat) (s : Nat → ByteArray) : Prop := (a = none ∧ n = 0) ∨ ∃ g, a = some ⟨g, 0, none⟩ ∧ g < w.heap.size ∧ Strs w g 0 n s
def IOwn (w : World) (a : Option Addr) (n : Nat) (z : Nat → Int) : Prop := (a = none ∧ n = 0) ∨ ∃ g, a = some ⟨g, 0, none⟩ ∧ g < w.heap.size ∧ I32s w g 0 n z

theorem SOwn.below {w w' : World} {a : Option Addr} {n : Nat} {s : Nat → ByteArray} (h : SOwn w a n s) (hb : Below w.heap.size w w') : SOwn w' a n s := by
  rcases h with h | ⟨g, rfl, h1, h2⟩
  · exact .inl h
  · exact .inr ⟨g, rfl, by have := hb.size; omega, fun i hi => (hb.cell h1).trans (h2 i hi)⟩
theorem IOwn.below {w w' : World} {a : Option Addr} {n : Nat} {s : Nat → Int} (h : IOwn w a n s) (hb : Below w.heap.size w w') : IOwn w' a n s := by
  rcases h with h | ⟨g, rfl, h1, h2⟩
  · exact .inl h
  · exact .inr ⟨g, rfl, by have := hb.size; omega, fun i hi => (hb.cell h1).trans (h2 i hi)⟩
theorem SOwn.cell {w : World} {a : Option Addr} {n : Nat} {s : Nat → ByteArray} (h : SOwn w a n s) {k : Nat} (hk : k < n) : ∃ g, a = some ⟨g, 0, none⟩ ∧ w.cell? ⟨g, k, none⟩ = some (.string (s k)) := by
  rcases h with ⟨_, h⟩ | ⟨g, rfl, h1, h2⟩
  · omega
  · have := h2 k hk
    rw [Nat.zero_add] at this
    exact ⟨g, rfl, this⟩
theorem IOwn.cell {w : World} {a : Option Addr} {n : Nat} {s : Nat → Int} (h : IOwn w a n s) {k : Nat} (hk : k < n) : ∃ g, a = some ⟨g, 0, none⟩ ∧ w.cell? ⟨g, k, none⟩ = some (.int .i32 (s k)) := by
  rcases h with ⟨_, h⟩ | ⟨g, rfl, h1, h2⟩
  · omega
  · have := h2 k hk
    rw [Nat.zero_add] at this
    exact ⟨g, rfl, this⟩

theorem clone_s (a : Option Addr) (n c : Nat) (s : Nat → ByteArray) (w : World) (hn : n ≤ 65536) (h : SArg w a n c s) :
    Calls Trym.prog 17 #[.slice a n c] w fun e w' => ∃ a', e = .returned (.slice a' n n) ∧ SOwn w' a' n s ∧ Below w.heap.size w w' := by
  rcases h with ⟨rfl, rfl, rfl⟩ | ⟨x, rfl, h⟩
  · refine (clone17_nil w).mono ?_
    rintro e w' ⟨rfl, rfl⟩
    exact ⟨_, rfl, .inl ⟨rfl, rfl⟩, Below.refl _ _⟩
  · refine (clone17 x n c s w hn h).mono ?_
    rintro e w' ⟨rfl, hown, hb⟩
    refine ⟨_, rfl, .inr ⟨_, rfl, (hown.lt _ rfl).2, fun i hi => ?_⟩, hb⟩
    rw [Nat.zero_add, hown.cellAt i (by omega)]; simp [rowOf, hi]
theorem clone_i (a : Option Addr) (n c : Nat) (s : Nat → Int) (w : World) (hn : n ≤ 65536) (h : IArg w a n c s) :
    Calls Trym.prog 18 #[.slice a n c] w fun e w' => ∃ a', e = .returned (.slice a' n n) ∧ IOwn w' a' n s ∧ Below w.heap.size w w' := by
  rcases h with ⟨rfl, rfl, rfl⟩ | ⟨x, rfl, h⟩
  · refine (clone18_nil w).mono ?_
    rintro e w' ⟨rfl, rfl⟩
    exact ⟨_, rfl, .inl ⟨rfl, rfl⟩, Below.refl _ _⟩
  · refine (clone18 x n c s w hn h).mono ?_
    rintro e w' ⟨rfl, hown, hb⟩
    refine ⟨_, rfl, .inr ⟨_, rfl, (hown.lt _ rfl).2, fun i hi => ?_⟩, hb⟩
    rw [Nat.zero_add, hown.cellAt i (by omega)]; simp [rowOf, hi]

theorem zz_all (s0 s1 s2 s3 s4 : ByteArray) (a5 a6 a7 : Option Addr) (n : Nat) (nm pr : Nat → ByteArray) (pt : Nat → Int) (w : World) (hn : n ≤ 65536) (h5 : SOwn w a5 n nm) (h6 : SOwn w a6 n pr) (h7 : IOwn w a7 n pt) :
    Calls Trym.prog 19 #[.string s0, .string s1, .string s2, .string s3, .string s4, .slice a5 n n, .slice a6 n n, .slice a7 n n] w fun e w' => ZOut nm pr pt (lst s4 pr n) w e w' := by
  have hl0 : lst s4 pr 0 = [] := by unfold lst; split <;> rfl
  rcases h5 with ⟨rfl, rfl⟩ | ⟨g5, rfl, l5, h5⟩
  · rw [hl0]; exact zz19_nil s0 s1 s2 s3 s4 _ _ nm pr pt w
  · by_cases h0 : n = 0
    · subst h0
      rw [hl0]; exact zz19_zero s0 s1 s2 s3 s4 _ _ _ _ nm pr pt w
    · rcases h6 with ⟨_, h6⟩ | ⟨g6, rfl, l6, h6⟩
      · omega
      · rcases h7 with ⟨_, h7⟩ | ⟨g7, rfl, l7, h7⟩
        · omega
        · exact zz19 s0 s1 s2 s3 s4 g5 g6 g7 n nm pr pt w hn h5 h6 h7 l5 l6 l7

theorem ks_more (pr : Nat → ByteArray) (m : Nat) : ∀ d, ∃ tl, ks pr (m + d) = ks pr m ++ tl
  | 0 => ⟨[], by simp⟩
  | d + 1 => by
    obtain ⟨tl, h⟩ := ks_more pr m d
    cases hs : srvB (pr (m + d))
    · exact ⟨tl, by rw [← Nat.add_assoc, ks_no hs]; exact h⟩
    · exact ⟨tl ++ [m + d], by rw [← Nat.add_assoc, ks_yes hs, h, List.append_assoc]⟩

theorem ks_get {pr : Nat → ByteArray} {k n : Nat} (hk : k < n) (hs : srvB (pr k) = true) : (ks pr n).getD (ks pr k).length 0 = k := by
  obtain ⟨tl, h⟩ := ks_more pr (k + 1) (n - (k + 1))
  rw [show k + 1 + (n - (k + 1)) = n by omega, ks_yes hs, List.append_assoc] at h
  rw [h]
  simp

theorem ks_srv {pr : Nat → ByteArray} {n j : Nat} (hj : j < (ks pr n).length) : srvB (pr ((ks pr n).getD j 0)) = true := by
  have h1 : (ks pr n).getD j 0 = (ks pr n)[j] := by simp [hj]
  rw [h1]
  have h2 : (ks pr n)[j] ∈ ks pr n := List.getElem_mem hj
  unfold ks at h2
  exact (List.mem_filter.1 h2).2

set_option maxRecDepth 100000 in
set_option maxHeartbeats 4000000 in
theorem walk (s0 s1 s2 s3 s4 : ByteArray) (a5 : Option Addr) (n5 c5 : Nat) (nm : Nat → ByteArray) (a6 : Option Addr) (n6 c6 : Nat) (pr : Nat → ByteArray) (a7 : Option Addr) (n7 c7 : Nat) (pt : Nat → Int) (w : World)
    (h5 : SArg w a5 n5 c5 nm) (h6 : SArg w a6 n6 c6 pr) (h7 : IArg w a7 n7 c7 pt) :
    Calls Trym.prog 6 #[.string s0, .string s1, .string s2, .string s3, .string s4, .slice a5 n5 c5, .slice a6 n6 c6, .slice a7 n7 c7] w fun e w' => e = .returned (.bool true) ∧ Below w.heap.size w w' := by
  go_enter Trym.func6, Trym.ntmps6
  go_wp2_with fail
  refine (bytes15 s0 s1 s2 s3 s4 a5 n5 c5 nm a6 n6 c6 pr a7 n7 c7 _ h5.row h6.row).mono ?_
  rintro e w' ⟨⟨bb, rfl⟩, hw⟩
  obtain rfl := hw.symm
  cases bb
  · go_wp2
    go_ret
    exact ⟨rfl, Below.refl _ _⟩
  by_cases hb5 : 65536 < n5
  · go_wp2
    go_ret
    exact ⟨rfl, Below.refl _ _⟩
  by_cases hb6 : 65536 < n6
  · go_wp2
    go_ret
    exact ⟨rfl, Below.refl _ _⟩
  by_cases hb7 : 65536 < n7
  · go_wp2
    go_ret
    exact ⟨rfl, Below.refl _ _⟩
  by_cases hs0 : 1048576 < s0.size
  · go_wp2
    go_ret
    exact ⟨rfl, Below.refl _ _⟩
  by_cases hs1 : 1048576 < s1.size
  · go_wp2
    go_ret
    exact ⟨rfl, Below.refl _ _⟩
  by_cases hs2 : 1048576 < s2.size
  · go_wp2
    go_ret
    exact ⟨rfl, Below.refl _ _⟩
  by_cases hs3 : 1048576 < s3.size
  · go_wp2
    go_ret
    exact ⟨rfl, Below.refl _ _⟩
  by_cases hs4 : 1048576 < s4.size
  · go_wp2
    go_ret
    exact ⟨rfl, Below.refl _ _⟩
  go_wp2_with fail
  refine (sbytes a5 n5 c5 nm _ (by omega) h5.row).mono ?_
  rintro e w' ⟨⟨r5, hr50, hr51, rfl⟩, hw⟩
  obtain rfl := hw.symm
  go_wp2_with fail
  refine (sbytes a6 n6 c6 pr _ (by omega) h6.row).mono ?_
  rintro e w' ⟨⟨r6, hr60, hr61, rfl⟩, hw⟩
  obtain rfl := hw.symm
  by_cases htot : 1048576 < (s0.size : Int) + s1.size + s2.size + s3.size + s4.size + r5 + r6 + 4 * n7
  · go_wp2
    go_ret
    exact ⟨rfl, Below.refl _ _⟩
  by_cases hn6 : n6 = n5
  case neg =>
    have e1 : ((n6 : Int) != (n5 : Int)) = true := by simp; omega
    go_wp2
    go_ret
    exact ⟨rfl, Below.refl _ _⟩
  by_cases hn7 : n7 = n5
  case neg =>
    have e1 : ((n6 : Int) != (n5 : Int)) = false := by simp; omega
    have e2 : ((n7 : Int) != (n5 : Int)) = true := by simp; omega
    go_wp2
    go_ret
    exact ⟨rfl, Below.refl _ _⟩
  subst hn6
  subst hn7
  have hn : n7 ≤ 65536 := by omega
  go_wp2_with fail
  clear hb5 hb6 hb7 hs0 hs1 hs2 hs3 hs4 htot hr50 hr51 hr60 hr61
  refine (clone_s a5 n7 c5 nm _ hn h5).mono ?_
  rintro e w1 ⟨b5, rfl, o5, hb1⟩
  have h6' := h6.below hb1
  have h7' := h7.below hb1
  clear h5 h6 h7
  go_wp2_with fail
  refine (clone_s a6 n7 c6 pr _ hn h6').mono ?_
  rintro e w2 ⟨b6, rfl, o6, hb2⟩
  have h7'' := h7'.below hb2
  have o5' := o5.below hb2
  clear h6' h7' o5
  go_wp2_with fail
  refine (clone_i a7 n7 c7 pt _ hn h7'').mono ?_
  rintro e w3 ⟨b7, rfl, o7, hb3⟩
  have o5'' := o5'.below hb3
  have o6' := o6.below hb3
  have hbw : Below w.heap.size w w3 := (hb1.trans (hb2.mono hb1.size)).trans (hb3.mono (Nat.le_trans hb1.size hb2.size))
  clear h7'' o5' o6 hb1 hb2 hb3
  go_wp2_with fail
  refine (zz_all s0 s1 s2 s3 s4 b5 b6 b7 n7 nm pr pt _ hn o5'' o6' o7).mono ?_
  rintro e w4 ⟨b, x1, x2, x3, xs, ys, zs, rfl, hO, hb4⟩
  have hbw4 : Below w.heap.size w w4 := hbw.trans (hb4.mono hbw.size)
  have o5 := o5''.below hb4
  have o6 := o6'.below hb4
  have o7' := o7.below hb4
  have hll := lst_len s4 pr n7
  obtain ⟨l, hl⟩ : ∃ l, l = lst s4 pr n7 := ⟨_, rfl⟩
  have HL : Hid (l = lst s4 pr n7) := hl
  rw [← hl] at hO hll
  rw [← hl]
  clear hl o5'' o6' o7 hb4 hbw
  have y1 : Hid (∀ j, j < l.length → w4.cell? ⟨x1, j, none⟩ = some (.string (nm (l.getD j 0)))) := fun j hj => by rw [hO.o1.cellAt j (by omega)]; exact hO.p1 j hj
  have y2 : Hid (∀ j, j < l.length → w4.cell? ⟨x2, j, none⟩ = some (.string (pr (l.getD j 0)))) := fun j hj => by rw [hO.o2.cellAt j (by omega)]; exact hO.p2 j hj
  have y3 : Hid (∀ j, j < l.length → w4.cell? ⟨x3, j, none⟩ = some (.int .i32 (pt (l.getD j 0)))) := fun j hj => by rw [hO.o3.cellAt j (by omega)]; exact hO.p3 j hj
  clear hO
  have hem : (l.isEmpty == ((l.length : Int) == 0)) = true := by cases l <;> simp; omega
  cases hx : extB s4
  · have hty : (s4.toList == [69, 120, 116, 101, 114, 110, 97, 108, 78, 97, 109, 101]) = false := hx
    have HK : Hid (l = ks pr n7) := by rw [Hid, HL.out]; unfold lst; rw [hx]; rfl
    clear hx HL
    go_wp2_with fail
    go_loopg [22, 23] n7 (fun gk vc vk wx => w4 = wx ∧ ∃ i, i + gk = n7 ∧ vk = .int .i64 (i : Nat) ∧ vc = .int .i64 (ks pr i).length)
    case atStart => exact ⟨rfl, 0, by omega, rfl, rfl⟩
    case round =>
      obtain ⟨rfl, i, hig, rfl, rfl⟩ := hrel
      have hkl := ks_len pr i
      by_cases hlt : i < n7
      · obtain ⟨g, rfl, d⟩ := o6.cell hlt
        cases hS : srvB (pr i)
        · have HKi : Hid (ks pr (i + 1) = ks pr i) := ks_no hS
          go_wp2_with (go_at_call 20; refine (prot20 _ _).mono ?_; rintro e w' ⟨rfl, hw⟩; obtain rfl := hw.symm)
          go_roundg (gk - 1)
          case measure => omega
          case rel => exact ⟨rfl, i + 1, by omega, by go_num, by rw [HKi.out]⟩
        · have HKi : Hid (ks pr (i + 1) = ks pr i ++ [i]) := ks_yes hS
          go_wp2_with (go_at_call 20; refine (prot20 _ _).mono ?_; rintro e w' ⟨rfl, hw⟩; obtain rfl := hw.symm)
          go_roundg (gk - 1)
          case measure => omega
          case rel => exact ⟨rfl, i + 1, by omega, by go_num, by rw [HKi.out, List.length_append]; go_num⟩
      · have hin : i = n7 := by omega
        have ecnt : ((l.length : Int) != ((ks pr i).length : Int)) = false := by rw [hin, ← HK.out]; simp
        clear hin
        go_wp2_with fail
        go_loopg [24] l.length (fun gk vj wx => w4 = wx ∧ ∃ j, j + gk = l.length ∧ vj = .int .i64 (j : Nat))
        case atStart => exact ⟨rfl, 0, by omega, rfl⟩
        case round =>
          obtain ⟨rfl, j, hjg, rfl⟩ := hrel
          by_cases hlt2 : j < l.length
          · have d := y2.out j hlt2
            have hsv : srvB (pr (l.getD j 0)) = true := by rw [HK.out]; exact ks_srv (by rw [← HK.out]; exact hlt2)
            obtain ⟨aj, haj⟩ : ∃ aj, aj = l.getD j 0 := ⟨_, rfl⟩
            rw [← haj] at d hsv
            clear haj
            go_wp2_with (go_at_call 20; refine (prot20 _ _).mono ?_; rintro e w' ⟨rfl, hw⟩; obtain rfl := hw.symm)
            go_roundg (gk - 1)
            case measure => omega
            case rel => exact ⟨rfl, j + 1, by omega, by go_num⟩
          · go_wp2_with fail
            clear ecnt
            go_loopg [25, 26] n7 (fun gk vj vk wx => (∃ q, wx = w4.drewN q) ∧ ∃ j k, k + gk = n7 ∧ j ≤ l.length ∧ (ks pr k).length ≤ j ∧ vj = .int .i64 (j : Nat) ∧ vk = .int .i64 (k : Nat))
            case atStart => exact ⟨⟨0, rfl⟩, 0, 0, by omega, by omega, by simp [ks], rfl, rfl⟩
            case round =>
              obtain ⟨⟨q, hq⟩, j, k, hkg, hjl, hcj, rfl, rfl⟩ := hrel
              have z1 : Hid (∀ j, j < l.length → wr.cell? ⟨x1, j, none⟩ = some (.string (nm (l.getD j 0)))) := by rw [hq]; exact y1
              have z2 : Hid (∀ j, j < l.length → wr.cell? ⟨x2, j, none⟩ = some (.string (pr (l.getD j 0)))) := by rw [hq]; exact y2
              have z3 : Hid (∀ j, j < l.length → wr.cell? ⟨x3, j, none⟩ = some (.int .i32 (pt (l.getD j 0)))) := by rw [hq]; exact y3
              have p5 : SOwn wr b5 n7 nm := by rw [hq]; exact o5
              have p6 : SOwn wr b6 n7 pr := by rw [hq]; exact o6
              have p7 : IOwn wr b7 n7 pt := by rw [hq]; exact o7'
              have HQ : Hid (wr = w4.drewN q) := hq
              clear hq
              by_cases hkn : k < n7
              · by_cases hjn : j < l.length
                · obtain ⟨u5, hu5, d5⟩ := p5.cell hkn
                  obtain ⟨u6, hu6, d6⟩ := p6.cell hkn
                  obtain ⟨u7, hu7, d7⟩ := p7.cell hkn
                  have f1 := z1.out j hjn
                  have f2 := z2.out j hjn
                  have f3 := z3.out j hjn
                  obtain ⟨aj, haj⟩ : ∃ aj, aj = l.getD j 0 := ⟨_, rfl⟩
                  rw [← haj] at f1 f2 f3
                  have HAJ : Hid (aj = l.getD j 0) := haj
                  clear haj
                  subst hu5
                  subst hu6
                  subst hu7
                  have hlk : (k : Int) < (n7 : Int) := by omega
                  have hlj : (j : Int) < (l.length : Int) := by omega
                  have HGR : Hid (¬ ((nm k).toList = (nm aj).toList ∧ (pr k).toList = (pr aj).toList ∧ pt k = pt aj) → (ks pr (k + 1)).length ≤ j) := by
                    intro hne
                    cases hS : srvB (pr k)
                    · rw [ks_no hS]; exact hcj
                    · rw [ks_yes hS, List.length_append]
                      have : (ks pr k).length ≠ j := by
                        intro e
                        have h1 := ks_get hkn hS
                        rw [e, ← HK.out, ← HAJ.out] at h1
                        rw [h1] at hne
                        exact hne ⟨rfl, rfl, rfl⟩
                      simp; omega
                  by_cases q1 : (nm k).toList = (nm aj).toList
                  · have e1 : ((nm k).toList == (nm aj).toList) = true := by simp [q1]
                    by_cases q2 : (pr k).toList = (pr aj).toList
                    · have e2 : ((pr k).toList == (pr aj).toList) = true := by simp [q2]
                      by_cases q3 : pt k = pt aj
                      · have e3 : (pt k == pt aj) = true := by simp [q3]
                        have hks : (ks pr (k + 1)).length ≤ j + 1 := by
                          cases hS : srvB (pr k)
                          · rw [ks_no hS]; omega
                          · rw [ks_yes hS, List.length_append]; simp; omega
                        have HKS : Hid ((ks pr (k + 1)).length ≤ j + 1) := hks
                        clear hks HGR q1 q2 q3
                        go_wp2
                        go_quiet (fail)
                        go_wp2
                        go_roundg (gk - 1)
                        case measure => omega
                        case rel => exact ⟨⟨q + nq, by rw [HQ.out, World.drewN_drewN]⟩, j + 1, k + 1, by omega, by omega, HKS.out, by go_num, by go_num⟩
                      · have e3 : (pt k == pt aj) = false := by simp [q3]
                        have HST : Hid ((ks pr (k + 1)).length ≤ j) := HGR.out (fun h => q3 h.2.2)
                        clear HGR q1 q2 q3
                        go_wp2
                        go_quiet (fail)
                        go_wp2
                        go_roundg (gk - 1)
                        case measure => omega
                        case rel => exact ⟨⟨q + nq, by rw [HQ.out, World.drewN_drewN]⟩, j, k + 1, by omega, hjl, HST.out, rfl, by go_num⟩
                    · have e2 : ((pr k).toList == (pr aj).toList) = false := by simp [q2]
                      have HST : Hid ((ks pr (k + 1)).length ≤ j) := HGR.out (fun h => q2 h.2.1)
                      clear HGR q1 q2
                      go_wp2
                      go_quiet (fail)
                      go_wp2
                      go_roundg (gk - 1)
                      case measure => omega
                      case rel => exact ⟨⟨q + nq, by rw [HQ.out, World.drewN_drewN]⟩, j, k + 1, by omega, hjl, HST.out, rfl, by go_num⟩
                  · have e1 : ((nm k).toList == (nm aj).toList) = false := by simp [q1]
                    have HST : Hid ((ks pr (k + 1)).length ≤ j) := HGR.out (fun h => q1 h.1)
                    clear HGR q1
                    go_wp2
                    go_quiet (fail)
                    go_wp2
                    go_roundg (gk - 1)
                    case measure => omega
                    case rel => exact ⟨⟨q + nq, by rw [HQ.out, World.drewN_drewN]⟩, j, k + 1, by omega, hjl, HST.out, rfl, by go_num⟩
                · have hlk : (k : Int) < (n7 : Int) := by omega
                  have ej : ((j : Int) == (l.length : Int)) = true := by simp; omega
                  go_wp2
                  go_ret
                  exact ⟨rfl, by rw [HQ.out]; exact below_drewN hbw4 q⟩
              · have hkk : k = n7 := by omega
                have ej : ((j : Int) == (l.length : Int)) = true := by
                  have h1 := hcj
                  rw [hkk, ← HK.out] at h1
                  simp; omega
                go_wp2
                go_ret
                exact ⟨rfl, by rw [HQ.out]; exact below_drewN hbw4 q⟩
  · have hty : (s4.toList == [69, 120, 116, 101, 114, 110, 97, 108, 78, 97, 109, 101]) = true := hx
    have hl0 : l = [] := by rw [HL.out]; unfold lst; rw [hx]; rfl
    clear hx HL
    subst hl0
    go_wp2
    go_ret
    exact ⟨rfl, hbw4⟩

end Go.Proofs.Qxb6603339aMods
