import Derived.Test.Qxb6603316aModsWd
namespace Go.Proofs.Qxb6603316aMods
open Go.RowKit
set_option linter.unusedVariables false

theorem Txt.alloc {w : World} {g o n : Nat} {t : Nat → Int} (h : Txt w g o n t) (hg : g < w.heap.size) (x : Obj) : Txt (w.alloc x) g o n t := fun i hi => by
  rw [← h i hi]; exact ((Below.refl w.heap.size w).alloc (Nat.le_refl _) x).cell hg

theorem Txt.below {w w' : World} {g o n : Nat} {t : Nat → Int} (h : Txt w g o n t) (hb : Below w.heap.size w w') (hg : g < w.heap.size) : Txt w' g o n t := fun i hi => by
  rw [← h i hi]; exact hb.cell hg

set_option maxHeartbeats 1000000 in
theorem zz14_no (g n p : Nat) (b : Bool) (t : Nat → Int) (w : World) (hn : n ≤ 1048576) (hp : p < n) (hl : t (n - 1) = 10) (hc : Txt w g 0 n t) (hg : g < w.heap.size) (hs : startB (t p) (t (p + 1)) = false) :
    Calls Trym.prog 14 #[.slice (some ⟨g, 0, none⟩) n n, .int .i64 p, .bool b] w fun e w' => e = .returned (.tuple #[.slice none 0 0, .bool false, .int .i64 p]) ∧ Below w.heap.size w w' := by
  have HL : Hid (t (n - 1) = 10) := hl
  have HS : Hid (startB (t p) (t (p + 1)) = false) := hs
  clear hl hs
  go_enter Trym.func14, Trym.ntmps14
  go_wp2_with fail
  refine (flow29_no w.heap.size g n p b t _ hn hp HL.out ?c1 HS.out ?c2 ?c3).mono ?_
  case c1 => exact hc.alloc hg _
  case c2 => simp
  case c3 => simp
  rintro e w' ⟨rfl, q, rfl⟩
  go_wp2
  go_quiet (fail)
  go_wp2
  go_ret3
  exact ⟨rfl, below_drewN (below_drewN ((Below.refl _ _).alloc (Nat.le_refl _) _) _) _⟩

set_option maxHeartbeats 1000000 in
theorem zz14 (g n p : Nat) (b : Bool) (t : Nat → Int) (w : World) (hn : n ≤ 1048576) (hp : p < n) (hl : t (n - 1) = 10) (hc : Txt w g 0 n t) (hg : g < w.heap.size) (hs : startB (t p) (t (p + 1)) = true) :
    Calls Trym.prog 14 #[.slice (some ⟨g, 0, none⟩) n n, .int .i64 p, .bool b] w fun e w' => ∃ m, FirstStop t p n m ∧
      (((fin t p b m).1 = false ∧ e = .returned (.tuple #[.slice none 0 0, .bool false, .int .i64 p])) ∨
       ((fin t p b m).1 = true ∧ e = .returned (.tuple #[.slice (some ⟨g, p, none⟩) ((fin t p b m).2 - p) (n - p), .bool true, .int .i64 (fin t p b m).2]))) ∧ Below w.heap.size w w' := by
  have HL : Hid (t (n - 1) = 10) := hl
  have HS : Hid (startB (t p) (t (p + 1)) = true) := hs
  clear hl hs
  go_enter Trym.func14, Trym.ntmps14
  go_wp2_with fail
  refine (flow29 w.heap.size g n p b t _ hn hp HL.out ?c1 HS.out ?c2 ?c3 ?c4).mono ?_
  case c1 => exact hc.alloc hg _
  case c2 => simp
  case c3 => simp
  case c4 => simp
  rintro e w' ⟨m, hm, ⟨h1, rfl, q, rfl⟩ | ⟨h1, rfl, q, rfl⟩⟩
  · have H1 : Hid _ := h1
    clear h1
    go_wp2
    go_quiet (fail)
    go_wp2
    go_ret3
    exact ⟨m, hm, .inl ⟨H1.out, rfl⟩, below_drewN (below_drewN ((Below.refl _ _).alloc (Nat.le_refl _) _) _) _⟩
  · have H1 : Hid _ := h1
    clear h1
    go_wp2
    go_quiet (fail)
    go_wp2
    go_ret3
    exact ⟨m, hm, .inr ⟨H1.out, rfl⟩, below_drewN ((below_drewN ((Below.refl _ _).alloc (Nat.le_refl _) _) _).setCell (Nat.le_refl _) _) _⟩
end Go.Proofs.Qxb6603316aMods
