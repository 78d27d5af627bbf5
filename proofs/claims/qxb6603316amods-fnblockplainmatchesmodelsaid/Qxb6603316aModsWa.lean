import Derived.Test.Qxb6603316aModsProg
import Derived.WalkKit
import Derived.WalkSpells
import Derived.WalkLawsBesides
namespace Go.Proofs.Qxb6603316aMods
open Go.RowKit
set_option linter.unusedVariables false

theorem bytes_le (a : Option Addr) (n c : Nat) (p : Int) (k : Bool) (w : World) (h : n ≤ 1048576) :
    Calls Trym.prog 10 #[.slice a n c, .int .i64 p, .bool k] w fun e w' => e = .returned (.bool true) ∧ w' = w := by
  go_enter Trym.func10, Trym.ntmps10
  go_wp2
  go_ret
  exact ⟨rfl, rfl⟩

theorem bytes_gt (a : Option Addr) (n c : Nat) (p : Int) (k : Bool) (w : World) (h : 1048576 < n) :
    Calls Trym.prog 10 #[.slice a n c, .int .i64 p, .bool k] w fun e w' => e = .returned (.bool false) ∧ w' = w := by
  go_enter Trym.func10, Trym.ntmps10
  go_wp2
  go_ret
  exact ⟨rfl, rfl⟩

theorem domain_nil (a : Option Addr) (c : Nat) (p : Int) (w : World) :
    Calls Trym.prog 11 #[.slice a 0 c, .int .i64 p] w fun e w' => e = .returned (.bool false) ∧ w' = w := by
  go_enter Trym.func11, Trym.ntmps11
  go_wp2
  go_ret
  exact ⟨rfl, rfl⟩

theorem domain_any (g o n c : Nat) (z : Int) (p : Int) (w : World) (hn : 0 < n) (hm : n ≤ 1048576) (hc : w.cell? ⟨g, o + (n - 1), none⟩ = some (.int .u8 z)) :
    Calls Trym.prog 11 #[.slice (some ⟨g, o, none⟩) n c, .int .i64 p] w fun e w' => (e = .returned (.bool false) ∨ (e = .returned (.bool true) ∧ z = 10 ∧ 0 ≤ p ∧ p < n)) ∧ w' = w := by
  by_cases hz : z = 10
  · subst hz
    by_cases h0 : 0 ≤ p
    · by_cases h1 : p < n
      · go_enter Trym.func11, Trym.ntmps11
        go_wp2
        go_ret
        exact ⟨.inr ⟨rfl, by trivial, h0, h1⟩, rfl⟩
      · go_enter Trym.func11, Trym.ntmps11
        go_wp2
        go_ret
        exact ⟨.inl rfl, rfl⟩
    · go_enter Trym.func11, Trym.ntmps11
      go_wp2
      go_ret
      exact ⟨.inl rfl, rfl⟩
  · have hz' : (z == 10) = false := by simp [hz]
    go_enter Trym.func11, Trym.ntmps11
    go_wp2
    go_ret
    exact ⟨.inl rfl, rfl⟩


/-- the row of bytes -/
def Txt (w : World) (g o n : Nat) (t : Nat → Int) : Prop := ∀ i, i < n → w.cell? ⟨g, o + i, none⟩ = some (.int .u8 (t i))

theorem Trym.info5 : (Trym.prog.info? 5).map (fun i => (i.zero, i.size, i.bytes)) = some (some (.int .u8 0), 1, 1) := by kernel_rfl

def bts (t : Nat → Int) (n : Nat) : List Value := (List.range n).map fun i => Value.int .u8 (t i)

theorem clone_nil (w : World) :
    Calls Trym.prog 12 #[.slice none 0 0] w fun e w' => e = .returned (.slice none 0 0) ∧ w' = w := by
  have q22 : ∀ (w : World) (a : Option Addr) (n c n' c' : Nat), (binOp .eql 22 (.slice a n c) (.slice none n' c')).run Trym.prog w = .ok (.bool a.isNone) w := fun w a n c n' c' => Lib.run_eql_slice_nil w _ _ a n c n' c' Trym.underlying22
  go_enter Trym.func12, Trym.ntmps12
  go_wp2
  go_ret
  exact ⟨rfl, rfl⟩

set_option maxHeartbeats 400000 in
theorem clone_any (g o n c : Nat) (t : Nat → Int) (w : World) (hn : n ≤ 1048576) (hg : n = 0 ∨ g < w.heap.size) (hc : Txt w g o n t) :
    Calls Trym.prog 12 #[.slice (some ⟨g, o, none⟩) n c] w fun e w' => e = .returned (.slice (some ⟨w.heap.size, 0, none⟩) n n) ∧
      w'.ownsRow w.heap.size 5 1 (.slice (some ⟨w.heap.size, 0, none⟩) n n) n (bts t n) ∧ Below w.heap.size w w' := by
  have q22 : ∀ (w : World) (a : Option Addr) (n c n' c' : Nat), (binOp .eql 22 (.slice a n c) (.slice none n' c')).run Trym.prog w = .ok (.bool a.isNone) w := fun w a n c n' c' => Lib.run_eql_slice_nil w _ _ a n c n' c' Trym.underlying22
  obtain ⟨i0, hi, hz0, hz1, hz2⟩ := info_parts Trym.info5
  go_enter Trym.func12, Trym.ntmps12
  go_wp2_with (at_make; refine wpList_make_full _ rfl _ _ 22 rfl w.heap.size 5 i0 (.int .u8 0) 1 Trym.underlying22 hi hz0 hz1 _ _ _ _ n rfl rfl rfl rfl ?b2 ?b3 (Nat.le_refl _) ?_)
  case b2 => rw [hz2]; omega
  case b3 => unfold maxLen; omega
  intro w0 hown0 hgrow0
  go_wp2
  go_loopw [4] (fun i wr => ∃ (k : Nat) (xs : List Value), k ≤ n ∧ i = .int .i64 k ∧ wr.ownsRow w.heap.size 5 1 (.slice (some ⟨w.heap.size, 0, none⟩) n n) n xs ∧ (∀ j, j < k → xs[j]? = some (.int .u8 (t j))) ∧ Below w.heap.size w wr)
    (fun i _ => n - (intOf i).toNat)
  case atStart => exact ⟨0, _, Nat.zero_le _, rfl, hown0, fun j hj => absurd hj (Nat.not_lt_zero _), (Below.refl _ _).grown hgrow0 (Nat.le_refl _) (fun k h => by cases h)⟩
  case round =>
    obtain ⟨k, xs, hk, rfl, hown, hxs, hnx⟩ := hrel
    by_cases hlt : k < n
    · have g1 : wr.cell? ⟨g, o + k, none⟩ = some (.int .u8 (t k)) := (hnx.cell (by show g < _; omega)).trans (hc k hlt)
      have hlen : xs.length = n := by simpa using hown.1
      have g2 : wr.cell? ⟨w.heap.size, k, none⟩ = some (xs[k]'(by omega)) := by rw [hown.cellAt k (by omega)]; simp [hlen, hlt]
      have g3 := hown.frozenAt k
      go_wp2
      go_roundw
      case rel =>
        obtain ⟨h1, h2⟩ := hown.stored k (.int .u8 (t k))
        refine ⟨k + 1, _, by omega, by go_num, h1, fun j hj => ?_, hnx.setCell (Nat.le_refl _) _⟩
        by_cases hjk : j = k
        · subst hjk; simp [hlen, hlt]
        · rw [List.getElem?_set_ne (by omega)]; exact hxs j (by omega)
      case measure => simp [intOf]; omega
    · go_wp2
      go_ret
      have hkn : k = n := by omega
      subst hkn
      have hlen : xs.length = k := by simpa using hown.1
      have hx : xs = bts t k := by
        apply List.ext_getElem?
        intro j
        by_cases hj : j < k
        · rw [hxs j hj]; simp [bts, hj]
        · rw [List.getElem?_eq_none (by omega), List.getElem?_eq_none (by simp [bts]; omega)]
      exact ⟨rfl, hx ▸ hown, hnx⟩

end Go.Proofs.Qxb6603316aMods
