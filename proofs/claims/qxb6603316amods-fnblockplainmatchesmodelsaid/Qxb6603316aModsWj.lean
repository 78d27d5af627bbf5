import Derived.Test.Qxb6603316aModsWi
import Derived.Outline
namespace Go.Proofs.Qxb6603316aMods
open Go.RowKit
set_option linter.unusedVariables false

section
variable {w0 : World} {v0 : Value} {B g n nd : Nat} {t : Nat → Int} {D : List Int} {p : Nat} {w : World} {vd : Value}

set_option maxRecDepth 100000 in
set_option maxHeartbeats 1000000 in
theorem block33_no (col : Int) (h : Mem w0 v0 B g n nd t D p w vd []) (hn : n ≤ 1048576) (hp : p < n) (hl : t (n - 1) = 10) (hs : startB (t p) (t (p + 1)) = false) :
    Calls Trym.prog 33 #[.pointer (some ⟨B, 0, none⟩), .int .i64 col] w fun e w' => e = .returned (.tuple #[.slice none 0 0, .bool false]) ∧ Mem w0 v0 B g n nd t D p w' vd [] := by
  have HL : Hid (t (n - 1) = 10) := hl
  clear hl
  have h0 := h.c0
  have h1 := h.c1
  go_enter Trym.func33, Trym.ntmps33
  go_wp2_with fail
  go_quiet ((go_at_call 35; exact Calls.quiet_of_same (start35 g 0 n n p t _ hn hp HL.out h.tx)))
  go_wp2
  go_ret2
  exact ⟨rfl, h.drewN _⟩

set_option maxRecDepth 100000 in
set_option maxHeartbeats 1000000 in
theorem block33_colon (col : Int) (h : Mem w0 v0 B g n nd t D p w vd []) (hn : n ≤ 1048576) (hp : p < n) (hl : t (n - 1) = 10) (hs : startB (t p) (t (p + 1)) = true) (hcol : colonB t n p = true) :
    Calls Trym.prog 33 #[.pointer (some ⟨B, 0, none⟩), .int .i64 col] w fun e w' => e = .returned (.tuple #[.slice none 0 0, .bool false]) ∧ Mem w0 v0 B g n nd t D p w' vd [] := by
  have HL : Hid (t (n - 1) = 10) := hl
  have HS := start_ne hs
  have HS' : Hid (t p ≠ 32 ∧ t p ≠ 10) := ⟨HS.2.2.2.2.2.2.2.2.1, HS.2.2.2.2.2.2.2.2.2⟩
  have HC : Hid (colonB t n p = true) := hcol
  clear hl HS hcol
  have h0 := h.c0
  have h1 := h.c1
  go_enter Trym.func33, Trym.ntmps33
  go_wp2_with fail
  go_quiet ((go_at_call 35; exact Calls.quiet_of_same (start35 g 0 n n p t _ hn hp HL.out h.tx)))
  clear hs
  go_wp2_with fail
  refine (line36 B g n p t _ hn hp HL.out HS'.out.1 HS'.out.2 (h.drewN nq).tx (h.drewN nq).c0).mono ?_
  rintro e w' ⟨⟨h2, rfl⟩ | ⟨h2, rfl⟩, hw⟩
  · obtain rfl := hw.symm
    clear h2
    go_wp2
    go_loop [8] (fun o => o = .bool false) (fun _ => 0)
    case atStart => rfl
    case round =>
      subst hrel
      go_wp2
      go_ret2
      exact ⟨rfl, h.drewN _⟩
  · rw [HC.out] at h2; cases h2

end
end Go.Proofs.Qxb6603316aMods
