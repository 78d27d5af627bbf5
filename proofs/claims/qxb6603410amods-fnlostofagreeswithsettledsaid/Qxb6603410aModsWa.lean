import Derived.Test.Qxb6603410aModsProg
import Derived.WalkKit
import Derived.WalkSpells
import Derived.WalkLawsBesides
import Derived.Deep.QuietTactic
import Derived.BigQuiet
import Derived.Deep.DeepCutAuto
import Derived.Deep.CutBlock
import Derived.Deep.LoopGhost
import Derived.Deep.AppendLies
namespace Go.Proofs.Qxb6603410aMods
open Go.RowKit
set_option linter.unusedVariables false
set_option linter.unusedSimpArgs false

/-- a row of strings -/
def Strs (w : World) (g o n : Nat) (s : Nat → ByteArray) : Prop := ∀ i, i < n → w.cell? ⟨g, o + i, none⟩ = some (.string (s i))
/-- a row of pairs of strings -/
def Pairs (w : World) (g o n : Nat) (u t : Nat → ByteArray) : Prop := ∀ i, i < n → w.cell? ⟨g, o + i * 2, none⟩ = some (.string (u i)) ∧ w.cell? ⟨g, o + i * 2 + 1, none⟩ = some (.string (t i))
/-- a slice of pairs that came in -/
def PArg (w : World) (a : Option Addr) (n c : Nat) (u t : Nat → ByteArray) : Prop := (a = none ∧ n = 0 ∧ c = 0) ∨ ∃ x, a = some x ∧ (0 < n → ∃ g o, x = ⟨g, o, none⟩ ∧ g < w.heap.size ∧ Pairs w g o n u t)

theorem PArg.below {w w' : World} {a : Option Addr} {n c : Nat} {u t : Nat → ByteArray} (h : PArg w a n c u t) (hb : Below w.heap.size w w') : PArg w' a n c u t := by
  rcases h with h | ⟨x, rfl, h⟩
  · exact .inl h
  · refine .inr ⟨x, rfl, fun h0 => ?_⟩
    obtain ⟨g, o, rfl, h1, h2⟩ := h h0
    exact ⟨g, o, rfl, by have := hb.size; omega, fun i hi => ⟨(hb.cell h1).trans (h2 i hi).1, (hb.cell h1).trans (h2 i hi).2⟩⟩

theorem PArg.cell {w : World} {a : Option Addr} {n c : Nat} {u t : Nat → ByteArray} (h : PArg w a n c u t) {k : Nat} (hk : k < n) :
    ∃ g o, a = some ⟨g, o, none⟩ ∧ g < w.heap.size ∧ w.cell? ⟨g, o + k * 2, none⟩ = some (.string (u k)) ∧ w.cell? ⟨g, o + k * 2 + 1, none⟩ = some (.string (t k)) := by
  rcases h with ⟨_, h, _⟩ | ⟨x, rfl, h⟩
  · omega
  · obtain ⟨g, o, rfl, h1, h2⟩ := h (by omega)
    exact ⟨g, o, rfl, h1, h2 k hk⟩

theorem Trym.info9 : (Trym.prog.info? 9).map (fun i => (i.zero, i.size, i.bytes)) = some (some (.string ⟨#[]⟩), 1, 16) := by kernel_rfl
theorem Trym.info29 : (Trym.prog.info? 29).map (fun i => (i.zero, i.size, i.bytes)) = some (some (.string ⟨#[]⟩), 1, 16) := by kernel_rfl
theorem Trym.info54 : (Trym.prog.info? 54).map (fun i => (i.zero, i.size, i.bytes)) = some (some (.agg #[.string ⟨#[]⟩, .string ⟨#[]⟩]), 2, 32) := by kernel_rfl

def IsB (e : Ending) : Prop := ∃ b, e = .returned (.bool b)

set_option maxHeartbeats 1000000 in
theorem bytes21 (a : Option Addr) (n c : Nat) (u t : Nat → ByteArray) (w : World) (h : PArg w a n c u t) :
    Calls Trym.prog 21 #[.slice a n c] w fun e w' => IsB e ∧ w' = w := by
  go_enter Trym.func21, Trym.ntmps21
  go_wp2
  any_goals (go_ret; exact ⟨⟨_, rfl⟩, rfl⟩)
  go_loop [3, 4] (fun z i => ∃ (r : Int) (k : Nat), 0 ≤ r ∧ r ≤ 1048576 ∧ k ≤ n ∧ z = .int .i64 r ∧ i = .int .i64 k) (fun _ i => n - (intOf i).toNat)
  case atStart => exact ⟨_, 0, by omega, by omega, by omega, rfl, rfl⟩
  case round =>
    obtain ⟨r, k, hr0, hr1, hk, rfl, rfl⟩ := hrel
    by_cases hlt : k < n
    · obtain ⟨g, o, rfl, _, g1, g2⟩ := h.cell hlt
      by_cases hb1 : 1048576 < (u k).size
      · go_wp2
        go_ret
        exact ⟨⟨_, rfl⟩, rfl⟩
      · by_cases hb2 : 1048576 < r + (u k).size
        · go_wp2
          go_ret
          exact ⟨⟨_, rfl⟩, rfl⟩
        · by_cases hb3 : 1048576 < (t k).size
          · go_wp2
            go_ret
            exact ⟨⟨_, rfl⟩, rfl⟩
          · by_cases hb4 : 1048576 < r + (u k).size + (t k).size
            · go_wp2
              go_ret
              exact ⟨⟨_, rfl⟩, rfl⟩
            · go_wp2
              go_round
              case rel => exact ⟨_, k + 1, by omega, by omega, by omega, rfl, by go_num⟩
              case measure => simp [intOf]; omega
    · go_wp2
      all_goals (go_ret; exact ⟨⟨_, rfl⟩, rfl⟩)

def R16 (n : Nat) (e : Ending) : Prop := ∃ r : Int, e = .returned (.int .i64 r) ∧ 0 ≤ r ∧ r ≤ 1048577 ∧ (r ≤ 1048576 → n ≤ 32768)

set_option maxHeartbeats 1000000 in
theorem res16 (a : Option Addr) (n c : Nat) (u t : Nat → ByteArray) (w : World) (h : PArg w a n c u t) :
    Calls Trym.prog 16 #[.slice a n c] w fun e w' => R16 n e ∧ w' = w := by
  go_enter Trym.func16, Trym.ntmps16
  go_wp2
  any_goals (go_ret; exact ⟨⟨_, rfl, by omega, by omega, by omega⟩, rfl⟩)
  go_loop [3, 4] (fun z i => ∃ (r : Int) (k : Nat), 0 ≤ r ∧ r ≤ 1048576 ∧ k ≤ n ∧ z = .int .i64 r ∧ i = .int .i64 k) (fun _ i => n - (intOf i).toNat)
  case atStart => exact ⟨_, 0, by omega, by omega, by omega, rfl, rfl⟩
  case round =>
    obtain ⟨r, k, hr0, hr1, hk, rfl, rfl⟩ := hrel
    by_cases hlt : k < n
    · obtain ⟨g, o, rfl, _, g1, g2⟩ := h.cell hlt
      by_cases hb1 : 1048576 < (u k).size
      · go_wp2
        go_ret
        exact ⟨⟨_, rfl, by omega, by omega, by omega⟩, rfl⟩
      · by_cases hb3 : 1048576 < (t k).size
        · go_wp2
          go_ret
          exact ⟨⟨_, rfl, by omega, by omega, by omega⟩, rfl⟩
        · by_cases hb2 : 1048576 < r + (u k).size
          · go_wp2
            go_ret
            exact ⟨⟨_, rfl, by omega, by omega, by omega⟩, rfl⟩
          · by_cases hb4 : 1048576 < r + (u k).size + (t k).size
            · go_wp2
              go_ret
              exact ⟨⟨_, rfl, by omega, by omega, by omega⟩, rfl⟩
            · go_wp2
              go_round
              case rel => exact ⟨_, k + 1, by omega, by omega, by omega, rfl, by go_num⟩
              case measure => simp [intOf]; omega
    · go_wp2
      go_ret
      exact ⟨⟨_, rfl, by omega, by omega, by omega⟩, rfl⟩

set_option maxHeartbeats 400000 in
theorem strs22 (a : Option Addr) (n c : Nat) (u t : Nat → ByteArray) (w : World) (hn : n ≤ 32768) (h : PArg w a n c u t) :
    Calls Trym.prog 22 #[.slice a n c] w fun e w' => e = .returned (.slice (some ⟨w.heap.size, 0, none⟩) n n) ∧ w.heap.size < w'.heap.size ∧ Strs w' w.heap.size 0 n t ∧ Below w.heap.size w w' := by
  obtain ⟨i0, hi, hz0, hz1, hz2⟩ := info_parts Trym.info9
  go_enter Trym.func22, Trym.ntmps22
  go_wp2_with (at_make; refine wpList_make_full _ rfl _ _ 22 rfl w.heap.size 9 i0 (.string ⟨#[]⟩) 1 Trym.underlying22 hi hz0 hz1 _ _ _ _ n rfl rfl rfl rfl ?b2 ?b3 (Nat.le_refl _) ?_)
  case b2 => rw [hz2]; omega
  case b3 => unfold maxLen; omega
  intro w0 hown0 hgrow0
  go_wp2
  go_loopw [4] (fun i wr => ∃ (k : Nat) (xs : List Value), k ≤ n ∧ i = .int .i64 k ∧ wr.ownsRow w.heap.size 9 1 (.slice (some ⟨w.heap.size, 0, none⟩) n n) n xs ∧ (∀ j, j < k → xs[j]? = some (.string (t j))) ∧ Below w.heap.size w wr)
    (fun i _ => n - (intOf i).toNat)
  case atStart => exact ⟨0, _, Nat.zero_le _, rfl, hown0, fun j hj => absurd hj (Nat.not_lt_zero _), (Below.refl _ _).grown hgrow0 (Nat.le_refl _) (fun k h => by cases h)⟩
  case round =>
    obtain ⟨k, xs, hk, rfl, hown, hxs, hnx⟩ := hrel
    by_cases hlt : k < n
    · obtain ⟨g, o, rfl, hg, g0, g1⟩ := h.cell hlt
      have g1 : wr.cell? ⟨g, o + k * 2 + 1, none⟩ = some (.string (t k)) := (hnx.cell (by exact hg)).trans g1
      have hlen : xs.length = n := by simpa using hown.1
      have g2 : wr.cell? ⟨w.heap.size, k, none⟩ = some (xs[k]'(by omega)) := by rw [hown.cellAt k (by omega)]; simp [hlen, hlt]
      have g3 := hown.frozenAt k
      go_wp2
      go_roundw
      case rel =>
        obtain ⟨h1, h2⟩ := hown.stored k (.string (t k))
        refine ⟨k + 1, _, by omega, by go_num, h1, fun j hj => ?_, hnx.setCell (Nat.le_refl _) _⟩
        by_cases hjk : j = k
        · subst hjk; simp [hlen, hlt]
        · rw [List.getElem?_set_ne (by omega)]; exact hxs j (by omega)
      case measure => simp [intOf]; omega
    · go_wp2
      go_ret
      have hkn : k = n := by omega
      subst hkn
      exact ⟨rfl, (hown.lt _ rfl).2, fun i hi => by rw [Nat.zero_add, hown.cellAt i (by omega)]; exact hxs i hi, hnx⟩

set_option maxHeartbeats 400000 in
theorem stat12 (g n c : Nat) (t : Nat → ByteArray) (w : World) (hn : n ≤ 32768) (hg : g < w.heap.size) (h : Strs w g 0 n t) :
    Calls Trym.prog 12 #[.slice (some ⟨g, 0, none⟩) n c] w fun e w' => e = .returned (.slice (some ⟨w.heap.size, 0, none⟩) n n) ∧ w.heap.size < w'.heap.size ∧ Strs w' w.heap.size 0 n t ∧ Below w.heap.size w w' := by
  have q22 : ∀ (w : World) (a : Option Addr) (n c n' c' : Nat), (binOp .eql 22 (.slice a n c) (.slice none n' c')).run Trym.prog w = .ok (.bool a.isNone) w := fun w a n c n' c' => Lib.run_eql_slice_nil w _ _ a n c n' c' Trym.underlying22
  obtain ⟨i0, hi, hz0, hz1, hz2⟩ := info_parts Trym.info29
  go_enter Trym.func12, Trym.ntmps12
  go_wp2_with (at_make; refine wpList_make_full _ rfl _ _ 25 rfl w.heap.size 29 i0 (.string ⟨#[]⟩) 1 Trym.underlying25 hi hz0 hz1 _ _ _ _ n rfl rfl rfl rfl ?b2 ?b3 (Nat.le_refl _) ?_)
  case b2 => rw [hz2]; omega
  case b3 => unfold maxLen; omega
  intro w0 hown0 hgrow0
  go_wp2
  go_loopw [4] (fun i wr => ∃ (k : Nat) (xs : List Value), k ≤ n ∧ i = .int .i64 k ∧ wr.ownsRow w.heap.size 29 1 (.slice (some ⟨w.heap.size, 0, none⟩) n n) n xs ∧ (∀ j, j < k → xs[j]? = some (.string (t j))) ∧ Below w.heap.size w wr)
    (fun i _ => n - (intOf i).toNat)
  case atStart => exact ⟨0, _, Nat.zero_le _, rfl, hown0, fun j hj => absurd hj (Nat.not_lt_zero _), (Below.refl _ _).grown hgrow0 (Nat.le_refl _) (fun k h => by cases h)⟩
  case round =>
    obtain ⟨k, xs, hk, rfl, hown, hxs, hnx⟩ := hrel
    by_cases hlt : k < n
    · have g1 : wr.cell? ⟨g, 0 + k, none⟩ = some (.string (t k)) := (hnx.cell (by exact hg)).trans (h k hlt)
      rw [Nat.zero_add] at g1
      have hlen : xs.length = n := by simpa using hown.1
      have g2 : wr.cell? ⟨w.heap.size, k, none⟩ = some (xs[k]'(by omega)) := by rw [hown.cellAt k (by omega)]; simp [hlen, hlt]
      have g3 := hown.frozenAt k
      go_wp2
      go_roundw
      case rel =>
        obtain ⟨h1, h2⟩ := hown.stored k (.string (t k))
        refine ⟨k + 1, _, by omega, by go_num, h1, fun j hj => ?_, hnx.setCell (Nat.le_refl _) _⟩
        by_cases hjk : j = k
        · subst hjk; simp [hlen, hlt]
        · rw [List.getElem?_set_ne (by omega)]; exact hxs j (by omega)
      case measure => simp [intOf]; omega
    · go_wp2
      go_ret
      have hkn : k = n := by omega
      subst hkn
      exact ⟨rfl, (hown.lt _ rfl).2, fun i hi => by rw [Nat.zero_add, hown.cellAt i (by omega)]; exact hxs i hi, hnx⟩

/-- is one of the first k registered? -/
def Reg (t : Nat → ByteArray) (k : Nat) : Bool := (List.range k).any fun i => (t i).toList == [114, 101, 103, 105, 115, 116, 101, 114, 101, 100]
/-- which of the first k are lost -/
def lo (t : Nat → ByteArray) (k : Nat) : List Nat := (List.range k).filter fun i => (t i).toList == [108, 111, 115, 116]
def Los (t : Nat → ByteArray) (k : Nat) : Bool := !(lo t k).isEmpty
theorem Reg_succ (t : Nat → ByteArray) (k : Nat) : Reg t (k + 1) = (Reg t k || (t k).toList == [114, 101, 103, 105, 115, 116, 101, 114, 101, 100]) := by simp [Reg, List.range_succ]
theorem Reg_mono {t : Nat → ByteArray} {k n : Nat} (h : Reg t k = true) (hk : k ≤ n) : Reg t n = true := by
  induction n with
  | zero => obtain rfl : k = 0 := by omega
            exact h
  | succ n ih =>
    by_cases e : k = n + 1
    · subst e; exact h
    · rw [Reg_succ, ih (by omega)]; rfl
theorem lo_yes {t : Nat → ByteArray} {k : Nat} (h : ((t k).toList == [108, 111, 115, 116]) = true) : lo t (k + 1) = lo t k ++ [k] := by simp only [lo, List.range_succ, List.filter_append, List.filter_cons, h, if_true, List.filter_nil]
theorem lo_no {t : Nat → ByteArray} {k : Nat} (h : ((t k).toList == [108, 111, 115, 116]) = false) : lo t (k + 1) = lo t k := by simp only [lo, List.range_succ, List.filter_append, List.filter_cons, h, List.filter_nil]; simp
theorem lo_len (t : Nat → ByteArray) (k : Nat) : (lo t k).length ≤ k := by
  have := List.length_filter_le (fun i => (t i).toList == [108, 111, 115, 116]) (List.range k)
  simpa [lo] using this
theorem Los_yes {t : Nat → ByteArray} {k : Nat} (h : ((t k).toList == [108, 111, 115, 116]) = true) : Los t (k + 1) = true := by unfold Los; rw [lo_yes h]; simp
theorem Los_no {t : Nat → ByteArray} {k : Nat} (h : ((t k).toList == [108, 111, 115, 116]) = false) : Los t (k + 1) = Los t k := by unfold Los; rw [lo_no h]

def setl (t : Nat → ByteArray) (n : Nat) : ByteArray :=
  if Reg t n then { data := #[99, 111, 110, 102, 105, 114, 109, 105, 110, 103] } else if Los t n then { data := #[104, 101, 117, 114, 105, 115, 116, 105, 99] } else { data := #[99, 111, 110, 102, 105, 114, 109, 101, 100] }

set_option maxHeartbeats 1000000 in
theorem settled29 (g n c : Nat) (t : Nat → ByteArray) (w : World) (hn : n ≤ 32768) (h : Strs w g 0 n t) :
    Calls Trym.prog 29 #[.string { data := #[99, 111, 110, 102, 105, 114, 109, 105, 110, 103] }, .slice (some ⟨g, 0, none⟩) n c] w fun e w' => e = .returned (.string (setl t n)) ∧ w' = w := by
  go_enter Trym.func29, Trym.ntmps29
  go_wp2
  go_loop [5, 10] (fun l i => ∃ (k : Nat), k ≤ n ∧ Hid (Reg t k = false) ∧ l = .bool (Los t k) ∧ i = .int .i64 k) (fun _ i => n - (intOf i).toNat)
  case atStart => exact ⟨0, by omega, rfl, rfl, rfl⟩
  case round =>
    obtain ⟨k, hk, hR, rfl, rfl⟩ := hrel
    by_cases hlt : k < n
    · have g1 := h k hlt
      rw [Nat.zero_add] at g1
      cases hr : ((t k).toList == [114, 101, 103, 105, 115, 116, 101, 114, 101, 100])
      · have HR : Hid (Reg t (k + 1) = false) := by unfold Hid; rw [Reg_succ, hR.out, hr]; rfl
        cases hl : ((t k).toList == [108, 111, 115, 116])
        · have HL : Hid (Los t (k + 1) = Los t k) := Los_no hl
          go_wp2
          go_round
          case rel => exact ⟨k + 1, by omega, HR, by rw [HL.out], by go_num⟩
          case measure => simp [intOf]; omega
        · have HL : Hid (Los t (k + 1) = true) := Los_yes hl
          go_wp2
          go_round
          case rel => exact ⟨k + 1, by omega, HR, by rw [HL.out], by go_num⟩
          case measure => simp [intOf]; omega
      · have HR : Hid (Reg t n = true) := by unfold Hid; exact Reg_mono (k := k + 1) (by rw [Reg_succ, hR.out, hr]; rfl) hlt
        go_wp2
        go_ret
        exact ⟨by unfold setl; rw [HR.out]; rfl, rfl⟩
    · have HK : Hid (k = n) := by unfold Hid; omega
      have hRn : Hid (Reg t n = false) := by rw [← HK.out]; exact hR
      have HL : Hid (Los t k = Los t n) := by unfold Hid; rw [HK.out]
      cases hl : Los t k
      · go_wp2
        go_ret
        exact ⟨by unfold setl; rw [hRn.out, ← HL.out, hl]; rfl, rfl⟩
      · go_wp2
        go_ret
        exact ⟨by unfold setl; rw [hRn.out, ← HL.out, hl]; rfl, rfl⟩

theorem settled13 (g n c : Nat) (t : Nat → ByteArray) (w : World) (hn : n ≤ 32768) (h : Strs w g 0 n t) :
    Calls Trym.prog 13 #[.string { data := #[99, 111, 110, 102, 105, 114, 109, 105, 110, 103] }, .slice (some ⟨g, 0, none⟩) n c] w fun e w' => e = .returned (.string (setl t n)) ∧ w' = w := by
  go_enter Trym.func13, Trym.ntmps13
  go_wp2_with fail
  refine (settled29 g n c t _ hn h).mono ?_
  rintro e w' ⟨rfl, hw⟩
  obtain rfl := hw.symm
  go_wp2
  go_ret
  exact ⟨rfl, rfl⟩

end Go.Proofs.Qxb6603410aMods
