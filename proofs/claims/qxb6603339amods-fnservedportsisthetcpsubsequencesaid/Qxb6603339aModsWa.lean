import Derived.Test.Qxb6603339aModsProg
import Derived.WalkKit
import Derived.WalkSpells
import Derived.WalkLawsBesides
import Derived.Deep.QuietTactic
import Derived.BigQuiet
namespace Go.Proofs.Qxb6603339aMods
open Go.RowKit
set_option linter.unusedVariables false

/-- a row of strings -/
def Strs (w : World) (g o n : Nat) (s : Nat → ByteArray) : Prop := ∀ i, i < n → w.cell? ⟨g, o + i, none⟩ = some (.string (s i))
/-- a row of int32s -/
def I32s (w : World) (g o n : Nat) (z : Nat → Int) : Prop := ∀ i, i < n → w.cell? ⟨g, o + i, none⟩ = some (.int .i32 (z i))

theorem Trym.info9 : (Trym.prog.info? 9).map (fun i => (i.zero, i.size, i.bytes)) = some (some (.string ⟨#[]⟩), 1, 16) := by kernel_rfl
theorem Trym.info21 : (Trym.prog.info? 21).map (fun i => (i.zero, i.size, i.bytes)) = some (some (.int .i32 0), 1, 4) := by kernel_rfl
theorem Trym.info60 : (Trym.prog.info? 60).map (fun i => (i.zero, i.size, i.bytes)) = some (some (.agg #[.string ⟨#[]⟩, .string ⟨#[]⟩, .int .i32 0]), 3, 40) := by kernel_rfl

def rowOf (f : Nat → Value) (n : Nat) : List Value := (List.range n).map f

theorem clone17_nil (w : World) :
    Calls Trym.prog 17 #[.slice none 0 0] w fun e w' => e = .returned (.slice none 0 0) ∧ w' = w := by
  have q32 : ∀ (w : World) (a : Option Addr) (n c n' c' : Nat), (binOp .eql 32 (.slice a n c) (.slice none n' c')).run Trym.prog w = .ok (.bool a.isNone) w := fun w a n c n' c' => Lib.run_eql_slice_nil w _ _ a n c n' c' Trym.underlying32
  go_enter Trym.func17, Trym.ntmps17
  go_wp2
  go_ret
  exact ⟨rfl, rfl⟩
theorem clone18_nil (w : World) :
    Calls Trym.prog 18 #[.slice none 0 0] w fun e w' => e = .returned (.slice none 0 0) ∧ w' = w := by
  have q33 : ∀ (w : World) (a : Option Addr) (n c n' c' : Nat), (binOp .eql 33 (.slice a n c) (.slice none n' c')).run Trym.prog w = .ok (.bool a.isNone) w := fun w a n c n' c' => Lib.run_eql_slice_nil w _ _ a n c n' c' Trym.underlying33
  go_enter Trym.func18, Trym.ntmps18
  go_wp2
  go_ret
  exact ⟨rfl, rfl⟩

set_option maxHeartbeats 400000 in
theorem clone17 (x : Addr) (n c : Nat) (s : Nat → ByteArray) (w : World) (hn : n ≤ 65536) (hc : 0 < n → ∃ g o, x = ⟨g, o, none⟩ ∧ g < w.heap.size ∧ Strs w g o n s) :
    Calls Trym.prog 17 #[.slice (some x) n c] w fun e w' => e = .returned (.slice (some ⟨w.heap.size, 0, none⟩) n n) ∧
      w'.ownsRow w.heap.size 9 1 (.slice (some ⟨w.heap.size, 0, none⟩) n n) n (rowOf (fun i => .string (s i)) n) ∧ Below w.heap.size w w' := by
  have q32 : ∀ (w : World) (a : Option Addr) (n c n' c' : Nat), (binOp .eql 32 (.slice a n c) (.slice none n' c')).run Trym.prog w = .ok (.bool a.isNone) w := fun w a n c n' c' => Lib.run_eql_slice_nil w _ _ a n c n' c' Trym.underlying32
  obtain ⟨i0, hi, hz0, hz1, hz2⟩ := info_parts Trym.info9
  go_enter Trym.func17, Trym.ntmps17
  go_wp2_with (at_make; refine wpList_make_full _ rfl _ _ 32 rfl w.heap.size 9 i0 (.string ⟨#[]⟩) 1 Trym.underlying32 hi hz0 hz1 _ _ _ _ n rfl rfl rfl rfl ?b2 ?b3 (Nat.le_refl _) ?_)
  case b2 => rw [hz2]; omega
  case b3 => unfold maxLen; omega
  intro w0 hown0 hgrow0
  go_wp2
  go_loopw [4] (fun i wr => ∃ (k : Nat) (xs : List Value), k ≤ n ∧ i = .int .i64 k ∧ wr.ownsRow w.heap.size 9 1 (.slice (some ⟨w.heap.size, 0, none⟩) n n) n xs ∧ (∀ j, j < k → xs[j]? = some (.string (s j))) ∧ Below w.heap.size w wr)
    (fun i _ => n - (intOf i).toNat)
  case atStart => exact ⟨0, _, Nat.zero_le _, rfl, hown0, fun j hj => absurd hj (Nat.not_lt_zero _), (Below.refl _ _).grown hgrow0 (Nat.le_refl _) (fun k h => by cases h)⟩
  case round =>
    obtain ⟨k, xs, hk, rfl, hown, hxs, hnx⟩ := hrel
    by_cases hlt : k < n
    · obtain ⟨g, o, rfl, hg, hcc⟩ := hc (by omega)
      have g1 : wr.cell? ⟨g, o + k, none⟩ = some (.string (s k)) := (hnx.cell (by exact hg)).trans (hcc k hlt)
      have hlen : xs.length = n := by simpa using hown.1
      have g2 : wr.cell? ⟨w.heap.size, k, none⟩ = some (xs[k]'(by omega)) := by rw [hown.cellAt k (by omega)]; simp [hlen, hlt]
      have g3 := hown.frozenAt k
      go_wp2
      go_roundw
      case rel =>
        obtain ⟨h1, h2⟩ := hown.stored k (.string (s k))
        refine ⟨k + 1, _, by omega, by go_num, h1, fun j hj => ?_, hnx.setCell (Nat.le_refl _) _⟩
        by_cases hjk : j = k
        · subst hjk; simp [hlen, hlt]
        · rw [List.getElem?_set_ne (by omega)]; exact hxs j (by omega)
      case measure => simp [intOf]; omega
    · go_wp2
      go_ret
      have hkn : k = n := by omega
      subst hkn
      have hlen : xs.length = k := by simpa using hown.1
      have hx : xs = rowOf (fun i => .string (s i)) k := by
        apply List.ext_getElem?
        intro j
        by_cases hj : j < k
        · rw [hxs j hj]; simp [rowOf, hj]
        · rw [List.getElem?_eq_none (by omega), List.getElem?_eq_none (by simp [rowOf]; omega)]
      exact ⟨rfl, hx ▸ hown, hnx⟩

set_option maxHeartbeats 400000 in
theorem clone18 (x : Addr) (n c : Nat) (s : Nat → Int) (w : World) (hn : n ≤ 65536) (hc : 0 < n → ∃ g o, x = ⟨g, o, none⟩ ∧ g < w.heap.size ∧ I32s w g o n s) :
    Calls Trym.prog 18 #[.slice (some x) n c] w fun e w' => e = .returned (.slice (some ⟨w.heap.size, 0, none⟩) n n) ∧
      w'.ownsRow w.heap.size 21 1 (.slice (some ⟨w.heap.size, 0, none⟩) n n) n (rowOf (fun i => .int .i32 (s i)) n) ∧ Below w.heap.size w w' := by
  have q33 : ∀ (w : World) (a : Option Addr) (n c n' c' : Nat), (binOp .eql 33 (.slice a n c) (.slice none n' c')).run Trym.prog w = .ok (.bool a.isNone) w := fun w a n c n' c' => Lib.run_eql_slice_nil w _ _ a n c n' c' Trym.underlying33
  obtain ⟨i0, hi, hz0, hz1, hz2⟩ := info_parts Trym.info21
  go_enter Trym.func18, Trym.ntmps18
  go_wp2_with (at_make; refine wpList_make_full _ rfl _ _ 33 rfl w.heap.size 21 i0 (.int .i32 0) 1 Trym.underlying33 hi hz0 hz1 _ _ _ _ n rfl rfl rfl rfl ?b2 ?b3 (Nat.le_refl _) ?_)
  case b2 => rw [hz2]; omega
  case b3 => unfold maxLen; omega
  intro w0 hown0 hgrow0
  go_wp2
  go_loopw [4] (fun i wr => ∃ (k : Nat) (xs : List Value), k ≤ n ∧ i = .int .i64 k ∧ wr.ownsRow w.heap.size 21 1 (.slice (some ⟨w.heap.size, 0, none⟩) n n) n xs ∧ (∀ j, j < k → xs[j]? = some (.int .i32 (s j))) ∧ Below w.heap.size w wr)
    (fun i _ => n - (intOf i).toNat)
  case atStart => exact ⟨0, _, Nat.zero_le _, rfl, hown0, fun j hj => absurd hj (Nat.not_lt_zero _), (Below.refl _ _).grown hgrow0 (Nat.le_refl _) (fun k h => by cases h)⟩
  case round =>
    obtain ⟨k, xs, hk, rfl, hown, hxs, hnx⟩ := hrel
    by_cases hlt : k < n
    · obtain ⟨g, o, rfl, hg, hcc⟩ := hc (by omega)
      have g1 : wr.cell? ⟨g, o + k, none⟩ = some (.int .i32 (s k)) := (hnx.cell (by exact hg)).trans (hcc k hlt)
      have hlen : xs.length = n := by simpa using hown.1
      have g2 : wr.cell? ⟨w.heap.size, k, none⟩ = some (xs[k]'(by omega)) := by rw [hown.cellAt k (by omega)]; simp [hlen, hlt]
      have g3 := hown.frozenAt k
      go_wp2
      go_roundw
      case rel =>
        obtain ⟨h1, h2⟩ := hown.stored k (.int .i32 (s k))
        refine ⟨k + 1, _, by omega, by go_num, h1, fun j hj => ?_, hnx.setCell (Nat.le_refl _) _⟩
        by_cases hjk : j = k
        · subst hjk; simp [hlen, hlt]
        · rw [List.getElem?_set_ne (by omega)]; exact hxs j (by omega)
      case measure => simp [intOf]; omega
    · go_wp2
      go_ret
      have hkn : k = n := by omega
      subst hkn
      have hlen : xs.length = k := by simpa using hown.1
      have hx : xs = rowOf (fun i => .int .i32 (s i)) k := by
        apply List.ext_getElem?
        intro j
        by_cases hj : j < k
        · rw [hxs j hj]; simp [rowOf, hj]
        · rw [List.getElem?_eq_none (by omega), List.getElem?_eq_none (by simp [rowOf]; omega)]
      exact ⟨rfl, hx ▸ hown, hnx⟩


/-- what counts as served -/
def srvB (p : ByteArray) : Bool := p.toList.isEmpty || p.toList == [84, 67, 80]

theorem prot20 (p : ByteArray) (w : World) : Calls Trym.prog 20 #[.string p] w fun e w' => e = .returned (.bool (srvB p)) ∧ w' = w := by
  cases h1 : p.toList.isEmpty
  · cases h2 : (p.toList == [84, 67, 80])
    · go_enter Trym.func20, Trym.ntmps20
      go_wp2
      go_ret
      exact ⟨by unfold srvB; rw [h1, h2]; rfl, rfl⟩
    · go_enter Trym.func20, Trym.ntmps20
      go_wp2
      go_ret
      exact ⟨by unfold srvB; rw [h1, h2]; rfl, rfl⟩
  · go_enter Trym.func20, Trym.ntmps20
    go_wp2
    go_ret
    exact ⟨by unfold srvB; rw [h1]; rfl, rfl⟩

/-- a slice of strings that can be read -/
def SRow (w : World) (a : Option Addr) (n : Nat) (s : Nat → ByteArray) : Prop := n = 0 ∨ ∃ g o, a = some ⟨g, o, none⟩ ∧ g < w.heap.size ∧ Strs w g o n s
def IRow (w : World) (a : Option Addr) (n : Nat) (z : Nat → Int) : Prop := n = 0 ∨ ∃ g o, a = some ⟨g, o, none⟩ ∧ g < w.heap.size ∧ I32s w g o n z

theorem SRow.cell {w : World} {a : Option Addr} {n : Nat} {s : Nat → ByteArray} (h : SRow w a n s) {k : Nat} (hk : k < n) : ∃ g o, a = some ⟨g, o, none⟩ ∧ w.cell? ⟨g, o + k, none⟩ = some (.string (s k)) := by
  rcases h with h | ⟨g, o, h1, _, h2⟩
  · omega
  · exact ⟨g, o, h1, h2 k hk⟩

theorem sbytes16_zero (a : Option Addr) (c : Nat) (w : World) :
    Calls Trym.prog 16 #[.slice a 0 c] w fun e w' => e = .returned (.int .i64 0) ∧ w' = w := by
  go_enter Trym.func16, Trym.ntmps16
  go_wp2
  go_loop [3, 4] (fun t k => t = .int .i64 0 ∧ k = .int .i64 0) (fun _ _ => 0)
  case atStart => exact ⟨rfl, rfl⟩
  case round =>
    obtain ⟨rfl, rfl⟩ := hrel
    go_wp2
    go_ret
    exact ⟨rfl, rfl⟩

theorem sbytes16 (g o n c : Nat) (s : Nat → ByteArray) (w : World) (hn : n ≤ 65536) (hc : Strs w g o n s) :
    Calls Trym.prog 16 #[.slice (some ⟨g, o, none⟩) n c] w fun e w' => (∃ r : Int, 0 ≤ r ∧ r ≤ 1048577 ∧ e = .returned (.int .i64 r)) ∧ w' = w := by
  go_enter Trym.func16, Trym.ntmps16
  go_wp2
  go_loop [3, 4] (fun t k => ∃ (r : Int) (i : Nat), 0 ≤ r ∧ r ≤ 1048576 ∧ i ≤ n ∧ t = .int .i64 r ∧ k = .int .i64 i) (fun _ k => n - (intOf k).toNat)
  case atStart => exact ⟨0, 0, by omega, by omega, by omega, rfl, rfl⟩
  case round =>
    obtain ⟨r, i, hr0, hr1, hi, rfl, rfl⟩ := hrel
    by_cases hlt : i < n
    · have g1 := hc i hlt
      obtain ⟨z, hz⟩ : ∃ z, z = (s i).size := ⟨_, rfl⟩
      by_cases hbig : 1048576 < (s i).size
      · go_wp2
        go_ret
        exact ⟨⟨_, by omega, by omega, rfl⟩, rfl⟩
      · by_cases hb2 : 1048576 < r + 16 + (s i).size
        · go_wp2
          go_ret
          exact ⟨⟨_, by omega, by omega, rfl⟩, rfl⟩
        · go_wp2
          go_round
          case rel => exact ⟨_, i + 1, by omega, by omega, by omega, rfl, by go_num⟩
          case measure => simp [intOf]; omega
    · go_wp2
      go_ret
      exact ⟨⟨r, by omega, by omega, rfl⟩, rfl⟩

theorem sbytes (a : Option Addr) (n c : Nat) (s : Nat → ByteArray) (w : World) (hn : n ≤ 65536) (hc : SRow w a n s) :
    Calls Trym.prog 16 #[.slice a n c] w fun e w' => (∃ r : Int, 0 ≤ r ∧ r ≤ 1048577 ∧ e = .returned (.int .i64 r)) ∧ w' = w := by
  rcases hc with rfl | ⟨g, o, rfl, _, h⟩
  · refine (sbytes16_zero a c w).mono ?_
    rintro e w' ⟨rfl, rfl⟩
    exact ⟨⟨0, by omega, by omega, rfl⟩, rfl⟩
  · exact sbytes16 g o n c s w hn h


def IsB (e : Ending) : Prop := ∃ b, e = .returned (.bool b)

set_option maxRecDepth 100000 in
set_option maxHeartbeats 2000000 in
theorem bytes15 (s0 s1 s2 s3 s4 : ByteArray) (a5 : Option Addr) (n5 c5 : Nat) (t5 : Nat → ByteArray) (a6 : Option Addr) (n6 c6 : Nat) (t6 : Nat → ByteArray) (a7 : Option Addr) (n7 c7 : Nat) (w : World)
    (h5 : SRow w a5 n5 t5) (h6 : SRow w a6 n6 t6) :
    Calls Trym.prog 15 #[.string s0, .string s1, .string s2, .string s3, .string s4, .slice a5 n5 c5, .slice a6 n6 c6, .slice a7 n7 c7] w fun e w' => IsB e ∧ w' = w := by
  go_enter Trym.func15, Trym.ntmps15
  go_wp2
  any_goals (go_ret; exact ⟨⟨_, rfl⟩, rfl⟩)
  go_loop [17, 18] (fun z i => ∃ (r : Int) (k : Nat), 0 ≤ r ∧ r ≤ 1048576 ∧ k ≤ n5 ∧ z = .int .i64 r ∧ i = .int .i64 k) (fun _ i => n5 - (intOf i).toNat)
  case atStart => exact ⟨_, 0, by omega, by omega, by omega, rfl, rfl⟩
  case round =>
    obtain ⟨r, k, hr0, hr1, hk, rfl, rfl⟩ := hrel
    by_cases hlt : k < n5
    · obtain ⟨g, o, rfl, g1⟩ := h5.cell hlt
      by_cases hb1 : 1048576 < (t5 k).size
      · go_wp2
        go_ret
        exact ⟨⟨_, rfl⟩, rfl⟩
      · by_cases hb2 : 1048576 < r + (t5 k).size
        · go_wp2
          go_ret
          exact ⟨⟨_, rfl⟩, rfl⟩
        · go_wp2
          go_round
          case rel => exact ⟨_, k + 1, by omega, by omega, by omega, rfl, by go_num⟩
          case measure => simp [intOf]; omega
    · go_wp2
      any_goals (go_ret; exact ⟨⟨_, rfl⟩, rfl⟩)
      go_loop [17, 19] (fun z i => ∃ (r : Int) (k : Nat), 0 ≤ r ∧ r ≤ 1048576 ∧ k ≤ n6 ∧ z = .int .i64 r ∧ i = .int .i64 k) (fun _ i => n6 - (intOf i).toNat)
      case atStart => exact ⟨_, 0, by omega, by omega, by omega, rfl, rfl⟩
      case round =>
        obtain ⟨r, k, hr0, hr1, hk, rfl, rfl⟩ := hrel
        by_cases hlt : k < n6
        · obtain ⟨g, o, rfl, g1⟩ := h6.cell hlt
          by_cases hb1 : 1048576 < (t6 k).size
          · go_wp2
            go_ret
            exact ⟨⟨_, rfl⟩, rfl⟩
          · by_cases hb2 : 1048576 < r + (t6 k).size
            · go_wp2
              go_ret
              exact ⟨⟨_, rfl⟩, rfl⟩
            · go_wp2
              go_round
              case rel => exact ⟨_, k + 1, by omega, by omega, by omega, rfl, by go_num⟩
              case measure => simp [intOf]; omega
        · go_wp2
          all_goals (go_ret; exact ⟨⟨_, rfl⟩, rfl⟩)

end Go.Proofs.Qxb6603339aMods
