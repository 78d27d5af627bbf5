import Derived.Test.Qxb6603316aModsWe
namespace Go.Proofs.Qxb6603316aMods.fnFlowPlainMatchesModel
open Go.RowKit
set_option linter.unusedVariables false

/-- WHAT THE WALK IS TOLD OF A SLICE OF INTEGERS THAT CAME IN: it is nil; or it leads to a row of 'cap' cells, the numbers 'zs' (the first 'len' are its elements, the rest its spare room), each fitting its kind. -/
def IsRow (k : IntKind) (w : World) (a : Option Addr) (len cap : Nat) (zs : List Int) : Prop :=
  (a = none ∧ len = 0 ∧ cap = 0 ∧ zs = []) ∨
  ∃ x, a = some x ∧ len ≤ cap ∧ cap ≤ maxLen ∧ zs.length = cap ∧ (∀ i, i < zs.length → w.cell? (x.add i) = some (.int k (zs.getD i 0))) ∧ ∀ n ∈ zs, (Lit.int k n).wf = true

theorem cell_lt {w : World} {a : Addr} {v : Value} (h : w.cell? a = some v) : a.block < w.heap.size := by
  unfold World.cell? at h
  by_cases hb : a.block < w.heap.size
  · exact hb
  · rw [Array.getElem?_eq_none (by omega)] at h; simp at h

/-! ### STEP 1: THE WALK: the Go text returns true, AND WRITES NOTHING THAT WAS THERE: 'Below w.heap.size w w'' (Derived/Below.lean: '.refl', '.alloc', '.drew', '.setCell' at a new block, '.trans'). Open each 'IsRow' by 'rcases' AHEAD of 'go_enter'; part every test ahead of the walk. -/
theorem walk (a0 : Option Addr) (len0 cap0 : Nat) (z0 : List Int) (a1 : Int) (a2 : Bool) (w : World) (w0 : IsRow .u8 w a0 len0 cap0 z0) (w1 : (Lit.int .i64 a1).wf = true) :
    Calls Trym.prog 3 #[.slice a0 len0 cap0, .int .i64 a1, .bool a2] w fun e w' => e = .returned (.bool true) ∧ Below w.heap.size w w' := by
  have q22 : ∀ (w : World) (a : Option Addr) (n c n' c' : Nat), (binOp .eql 22 (.slice a n c) (.slice none n' c')).run Trym.prog w = .ok (.bool a.isNone) w := fun w a n c n' c' => Lib.run_eql_slice_nil w _ _ a n c n' c' Trym.underlying22
  by_cases hbig : 1048576 < len0
  · go_enter Trym.func3, Trym.ntmps3
    go_wp2_with (go_at_call 10; refine (bytes_gt _ _ _ _ _ _ hbig).mono ?_; rintro e w' ⟨rfl, hw⟩; obtain rfl := hw.symm)
    go_ret
    exact ⟨rfl, Below.refl _ _⟩
  have hle : len0 ≤ 1048576 := by omega
  by_cases hz0 : len0 = 0
  · subst hz0
    go_enter Trym.func3, Trym.ntmps3
    go_wp2_with (first | (go_at_call 10; refine (bytes_le _ _ _ _ _ _ hle).mono ?_; rintro e w' ⟨rfl, hw⟩; obtain rfl := hw.symm) | (go_at_call 11; refine (domain_nil _ _ _ _).mono ?_; rintro e w' ⟨rfl, hw⟩; obtain rfl := hw.symm))
    go_ret
    exact ⟨rfl, Below.refl _ _⟩
  rcases w0 with ⟨rfl, rfl, rfl, rfl⟩ | ⟨x, rfl, hl, hm, hz, hcell, hwz⟩
  · exact absurd rfl hz0
  obtain ⟨g, off, spot⟩ := x
  have hspot : spot = none := by simpa [Addr.add] using World.cell?_spot (hcell 0 (by omega))
  subst hspot
  obtain ⟨t, ht⟩ : ∃ t : Nat → Int, t = fun i => z0.getD i 0 := ⟨_, rfl⟩
  have hc : Txt w g off len0 t := fun i hi => by
    have h := hcell i (by omega)
    rw [ht]
    by_cases hi0 : i = 0
    · subst hi0; simpa [Addr.add] using h
    · simpa [Addr.add, hi0] using h
  have hg : g < w.heap.size := by
    have h := hc 0 (by omega)
    exact cell_lt h
  clear ht hcell hwz hz
  have hlast : w.cell? ⟨g, off + (len0 - 1), none⟩ = some (.int .u8 (t (len0 - 1))) := hc (len0 - 1) (by omega)
  go_enter Trym.func3, Trym.ntmps3
  go_wp2_with (first | (go_at_call 10; refine (bytes_le _ _ _ _ _ _ hle).mono ?_; rintro e w' ⟨rfl, hw⟩; obtain rfl := hw.symm))
  refine (domain_any g off len0 cap0 _ a1 _ (by omega) hle hlast).mono ?_
  rintro e w' ⟨⟨rfl⟩ | ⟨rfl, h10, hp0, hp1⟩, hw⟩
  · obtain rfl := hw.symm
    go_wp2
    go_ret
    exact ⟨rfl, Below.refl _ _⟩
  obtain rfl := hw.symm
  have HL : Hid (t (len0 - 1) = 10) := h10
  clear h10 hlast
  obtain ⟨p, rfl⟩ := Int.eq_ofNat_of_zero_le hp0
  have hp : p < len0 := by omega
  go_wp2_with fail
  refine (clone_any g off len0 cap0 t _ hle (.inr hg) hc).mono ?_
  rintro e wa ⟨rfl, hown, hbel⟩
  have hT : Txt wa w.heap.size 0 len0 t := fun i hi => by
    rw [Nat.zero_add, hown.cellAt i (by omega)]; simp [bts, hi]
  have hsz : w.heap.size < wa.heap.size := (hown.lt _ rfl).2
  clear hown
  go_wp2_with fail
  by_cases hs : startB (t p) (t (p + 1)) = true
  · refine (flow13 w.heap.size 0 len0 len0 p a2 t _ hle hp HL.out hT hs).mono ?_
    rintro e wb ⟨m1, m2, m3, m4, m5, hm5, hm5n, hF, rfl, hw⟩
    obtain rfl := hw.symm
    have hfs := firstStop_of HL.out hF.1 hF.2.1 hF.2.2.1 hF.2.2.2.1 hF.2.2.2.2 hm5 hm5n
    clear hF
    go_wp2_with fail
    refine (zz14 w.heap.size len0 p a2 t _ hle hp HL.out hT hsz hs).mono ?_
    rintro e wb ⟨m, hfs', hres, hbel2⟩
    obtain rfl := hfs.uniq hfs'
    have hT2 : Txt wb w.heap.size 0 len0 t := hT.below hbel2 hsz
    have hbel3 : Below w.heap.size w wb := hbel.trans (hbel2.mono (by omega))
    rcases hres with ⟨hr, rfl⟩ | ⟨hr, rfl⟩
    · go_wp2
      go_ret
      exact ⟨rfl, hbel3⟩
    · obtain ⟨r, hrr⟩ : ∃ r, (fin t p a2 m5).2 = r := ⟨_, rfl⟩
      have hb1 : p ≤ r := by rw [← hrr]; exact fin_ge hm5
      have hb2 : r ≤ len0 := by rw [← hrr]; have := fin_le t a2 hm5; omega
      have hT3 : Txt wb w.heap.size p (r - p) (fun i => t (p + i)) := fun i hi => by have := hT2 (p + i) (by omega); rwa [Nat.zero_add] at this
      rw [hrr]
      clear hrr
      go_wp2_with fail
      refine (eq_same w.heap.size p _ w.heap.size p _ (r - p) (fun i => t (p + i)) _ (by omega) hT3 hT3).mono ?_
      rintro e wc ⟨rfl, q, rfl⟩
      go_wp2
      go_ret
      exact ⟨rfl, below_drewN hbel3 _⟩
  · have hs' : startB (t p) (t (p + 1)) = false := by simpa using hs
    clear hs
    refine (flow13_no w.heap.size 0 len0 len0 p a2 t _ hle hp HL.out hT hs').mono ?_
    rintro e wb ⟨rfl, hw⟩
    obtain rfl := hw.symm
    go_wp2_with fail
    refine (zz14_no w.heap.size len0 p a2 t _ hle hp HL.out hT hsz hs').mono ?_
    rintro e wb ⟨rfl, hbel2⟩
    have hbel3 : Below w.heap.size w wb := hbel.trans (hbel2.mono (by omega))
    go_wp2
    go_ret
    exact ⟨rfl, hbel3⟩

end Go.Proofs.Qxb6603316aMods.fnFlowPlainMatchesModel
