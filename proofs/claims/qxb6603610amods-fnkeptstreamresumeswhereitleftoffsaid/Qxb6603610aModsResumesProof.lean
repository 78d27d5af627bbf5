/- The law FnKeptStreamResumesWhereItLeftOff: the frame is the kit's shell; the walk is by hand over the contracts of the callees. -/
import Derived.Test.Qxb6603610aModsRows
import Derived.WalkKit
import Derived.ProofKit
import Derived.OpenShut
import Derived.ChangeOld
import Derived.Below
import Derived.Deep.SlicePairs
import Derived.Test.Qxb6603610aModsWc
namespace Go.Proofs.Qxb6603610aMods.fnKeptStreamResumesWhereItLeftOff
open Go.ChangeShapes Go.WideShapes Go.ChangeAt Go.RowKit
set_option linter.unusedVariables false

theorem own : ownKnob Trym.prog.godebug = none := by kernel_rfl
theorem laidOut : laidOutB Trym.prog = true := by kernel_rfl
theorem cells37 : Trym.prog.cellsOf 37 = 2 := by kernel_rfl
theorem cells2 : Trym.prog.cellsOf 2 = 1 := by kernel_rfl

theorem cell_lt {w : World} {a : Addr} {v : Value} (h : w.cell? a = some v) : a.block < w.heap.size := by
  unfold World.cell? at h
  by_cases hg : a.block < w.heap.size
  · exact hg
  · simp [Array.getElem?_eq_none (Nat.le_of_not_lt hg)] at h

theorem parg {w : World} {x : Addr} {n c m : Nat} {u t : Nat → Int} (hm : n ≤ m) (h : ∀ i, i < m → w.cell? (x.add (i * 2)) = some (.int .i64 (u i)) ∧ w.cell? (x.add (i * 2 + 1)) = some (.int .i64 (t i))) : PArg w (some x) n c u t := by
  refine .inr ⟨x, rfl, fun h0 => ?_⟩
  have hspot : x.spot = none := by simpa [Addr.add] using World.cell?_spot (h 0 (by omega)).1
  obtain ⟨b, o, sp⟩ := x
  obtain rfl : sp = none := hspot
  refine ⟨b, o, rfl, by simpa [Addr.add] using cell_lt (h 0 (by omega)).1, fun i hi => ?_⟩
  obtain ⟨h1, h2⟩ := h i (by omega)
  refine ⟨?_, by simpa [Addr.add, Nat.add_assoc] using h2⟩
  by_cases hi0 : i = 0
  · subst hi0; simpa [Addr.add] using h1
  · have hi1 : ¬ i * 2 = 0 := by omega
    rw [Addr.add, if_neg hi1] at h1
    exact h1

/-! ### THE ROW's STEP: WRITTEN OUT: LEAVE IT -/
set_option maxRecDepth 100000 in
theorem lifted (os : Os) (started : os.Started) (H : Type) (enc : TypeId × Value → H) :
    ReturnsInHanded {} Trym.checked os 4 .any (Rows.fnKeptStreamResumesWhereItLeftOffSpec.pre6 enc Trym.prog Trym.f4 Rows.fnKeptStreamResumesWhereItLeftOffRow.domain false) (Rows.fnKeptStreamResumesWhereItLeftOffSpec.post enc Trym.prog Trym.f4 false true false false) := by
  refine returnsInHanded_of_change (C := Trym.checked) own started (by kernel_rfl) Trym.func4
    (ChangeSpec.witness6 (enc := enc) (C := Trym.checked) false ⟨#[], #[.slice none 0 0, .int .i64 0], []⟩ 8 (by kernel_rfl) (by kernel_rfl) (by kernel_rfl) (by kernel_rfl)) ?_
  intro W base args ds gs before hval0 hW hcnd _
  have hval : ∀ (j : Nat) t v, Trym.f4.params[j]? = some t → args[j]? = some v → Value.okWide Trym.prog W .any base t v := hval0
  have hW' := hW
  obtain ⟨p, q, hA0, hV, rfl, hfz, hnd⟩ := hW
  have hA : DataW.TrodAll enc Trym.prog W 0 (fun _ => true) true Trym.f4.params.toList args.toList ds p := hA0
  rw [Trym.params4] at hA hval
  obtain ⟨v0, vs0, d0, ds0, p0, q0, hargs, rfl, rfl, h0, r0⟩ := trodAll_cons hA
  obtain ⟨v1, vs1, d1, ds1, p1, q1, rfl, rfl, rfl, h1, r1⟩ := trodAll_cons r0
  obtain ⟨rfl, rfl, rfl⟩ := trodAll_nil r1
  obtain rfl : args = #[v0, v1] := by cases args; simp_all
  obtain ⟨rfl, rfl⟩ := trodVars_none hV
  obtain ⟨a0, len0, cap0, rfl⟩ := okWide_slice Trym.underlying22 (hval 0 22 v0 rfl rfl)
  obtain ⟨a1, rfl, rfl, rfl, w1⟩ := open_int Trym.underlying3 (hval 1 3 v1 rfl rfl) h1
  have k0 := h0
  have lt0 : ∀ x ∈ p0, x.block < W.heap.size := by obtain ⟨m, hm⟩ := k0; exact DataW.trod_lt m _ _ _ hm
  obtain ⟨u, t, w0⟩ : ∃ u t, PArg W a0 len0 cap0 u t := by
    obtain ⟨fuel, hf⟩ := h0
    rcases Go.Deep.open_slice_pairs Trym.underlying22 Trym.underlying37 cells37 rfl rfl cells2 cells2 hf with ⟨hcs, _⟩ | ⟨x, l, c, m, k, V0, V1, D0, D1, P0, P1, hcs, _, hl, hm, hmm, _, hall⟩
    · simp [Value.cells] at hcs
      exact ⟨fun _ => 0, fun _ => 0, .inl hcs⟩
    · simp [Value.cells] at hcs
      obtain ⟨rfl, rfl, rfl⟩ := hcs
      have hz' : m = cap0 := by simpa using hmm
      refine ⟨fun i => match V0 i with | .int _ s => s | _ => 0, fun i => match V1 i with | .int _ s => s | _ => 0, parg (m := m) (by omega) fun i hi => ?_⟩
      obtain ⟨e0, e1, t0, t1⟩ := hall i hi
      obtain ⟨s, hs, _⟩ := DataW.trod_int Trym.underlying2 t0
      obtain ⟨s', hs', _⟩ := DataW.trod_int Trym.underlying2 t1
      injection hs with hs _
      injection hs' with hs' _
      rw [hs] at e0 ⊢
      rw [hs'] at e1 ⊢
      exact ⟨e0, e1⟩
  clear hA0 hval0
  refine (walk4 a0 len0 cap0 a1 u t W w0).mono fun e W' ⟨he, bel⟩ => ?_
  subst he
  exact ⟨_, rfl, _, _, _, [], _, [], hW', trodAll_mk1 (shut_bool Trym.underlying4 _), (trodAll_cons_mk (Below.trod laidOut (by kernel_rfl) (of_decide_eq_true (by kernel_rfl)) k0 bel lt0) (trodAll_cons_mk (shut_int Trym.underlying3 w1) trodAll_mk0)), rfl, bel.frame _, fun h => by cases h⟩

theorem over : Rows.fnKeptStreamResumesWhereItLeftOffRow.holds Trym.pinned (OpenSpec.ofChange Rows.fnKeptStreamResumesWhereItLeftOffSpec) :=
  OpenClaim.holds_of_wide 4 Trym.f4 rfl rfl rfl rfl rfl rfl rfl ⟨rfl, rfl, rfl, rfl, rfl⟩ rfl rfl rfl rfl rfl (by kernel_rfl) Trym.func4 (by kernel_rfl)
    (of_decide_eq_true (by kernel_rfl)) (by unfold Func.isWrapper; first | (rw [if_pos (by decide +kernel)]; kernel_rfl) | (rw [if_neg (by decide +kernel)]; exact ⟨rfl, rfl⟩))
    (fun os started H enc _ => lifted os started H enc)

/-- ████ THE STATEMENT ████ -/
theorem proved : Rows.FnKeptStreamResumesWhereItLeftOffSaid := over
end Go.Proofs.Qxb6603610aMods.fnKeptStreamResumesWhereItLeftOff
