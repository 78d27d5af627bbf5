/- The law FnServedPortsIsTheTCPSubsequence: the frame is the kit's shell; the walk is by hand over the contracts of the callees. -/
import Derived.Test.Qxb6603339aModsRows
import Derived.WalkKit
import Derived.ProofKit
import Derived.OpenShut
import Derived.ShutString
import Derived.ChangeOld
import Derived.Below
import Derived.SliceStrings
import Derived.Test.Qxb6603339aModsServW
namespace Go.Proofs.Qxb6603339aMods.fnServedPortsIsTheTCPSubsequence
open Go.ChangeShapes Go.WideShapes Go.ChangeAt Go.RowKit
open Go.ChangeMaps (open_string shut_string)
set_option linter.unusedVariables false

theorem own : ownKnob Trym.prog.godebug = none := by kernel_rfl
theorem laidOut : laidOutB Trym.prog = true := by kernel_rfl

theorem cell_lt {w : World} {a : Addr} {v : Value} (h : w.cell? a = some v) : a.block < w.heap.size := by
  unfold World.cell? at h
  by_cases hg : a.block < w.heap.size
  · exact hg
  · simp [Array.getElem?_eq_none (Nat.le_of_not_lt hg)] at h

theorem sarg {w : World} {x : Addr} {n c m : Nat} {s : Nat → ByteArray} (hm : n ≤ m) (h : ∀ i, i < m → w.cell? (x.add i) = some (.string (s i))) : SArg w (some x) n c s := by
  refine .inr ⟨x, rfl, fun h0 => ?_⟩
  have hspot : x.spot = none := by simpa [Addr.add] using World.cell?_spot (h 0 (by omega))
  obtain ⟨b, o, sp⟩ := x
  obtain rfl : sp = none := hspot
  exact ⟨b, o, rfl, by simpa [Addr.add] using cell_lt (h 0 (by omega)), fun i hi => by
    have h1 := h i (by omega)
    by_cases hi0 : i = 0
    · subst hi0; simpa [Addr.add] using h1
    · simpa [Addr.add, hi0] using h1⟩
theorem iarg {w : World} {x : Addr} {n c m : Nat} {s : Nat → Int} (hm : n ≤ m) (h : ∀ i, i < m → w.cell? (x.add i) = some (.int .i32 (s i))) : IArg w (some x) n c s := by
  refine .inr ⟨x, rfl, fun h0 => ?_⟩
  have hspot : x.spot = none := by simpa [Addr.add] using World.cell?_spot (h 0 (by omega))
  obtain ⟨b, o, sp⟩ := x
  obtain rfl : sp = none := hspot
  exact ⟨b, o, rfl, by simpa [Addr.add] using cell_lt (h 0 (by omega)), fun i hi => by
    have h1 := h i (by omega)
    by_cases hi0 : i = 0
    · subst hi0; simpa [Addr.add] using h1
    · simpa [Addr.add, hi0] using h1⟩

/-! ### THE ROW's STEP: WRITTEN OUT: LEAVE IT -/
set_option maxRecDepth 100000 in
theorem lifted (os : Os) (started : os.Started) (H : Type) (enc : TypeId × Value → H) :
    ReturnsInHanded {} Trym.checked os 6 .any (Rows.fnServedPortsIsTheTCPSubsequenceSpec.pre6 enc Trym.prog Trym.f6 Rows.fnServedPortsIsTheTCPSubsequenceRow.domain false) (Rows.fnServedPortsIsTheTCPSubsequenceSpec.post enc Trym.prog Trym.f6 false true false false) := by
  refine returnsInHanded_of_change (C := Trym.checked) own started (by kernel_rfl) Trym.func6
    (ChangeSpec.witness6 (enc := enc) (C := Trym.checked) false ⟨#[], #[.string ⟨#[]⟩, .string ⟨#[]⟩, .string ⟨#[]⟩, .string ⟨#[]⟩, .string ⟨#[]⟩, .slice none 0 0, .slice none 0 0, .slice none 0 0], []⟩ 8 (by kernel_rfl) (by kernel_rfl) (by kernel_rfl) (by kernel_rfl)) ?_
  intro W base args ds gs before hval0 hW hcnd _
  have hval : ∀ (j : Nat) t v, Trym.f6.params[j]? = some t → args[j]? = some v → Value.okWide Trym.prog W .any base t v := hval0
  have hW' := hW
  obtain ⟨p, q, hA0, hV, rfl, hfz, hnd⟩ := hW
  have hA : DataW.TrodAll enc Trym.prog W 0 (fun _ => true) true Trym.f6.params.toList args.toList ds p := hA0
  rw [Trym.params6] at hA hval
  obtain ⟨v0, vs0, d0, ds0, p0, q0, hargs, rfl, rfl, h0, r0⟩ := trodAll_cons hA
  obtain ⟨v1, vs1, d1, ds1, p1, q1, rfl, rfl, rfl, h1, r1⟩ := trodAll_cons r0
  obtain ⟨v2, vs2, d2, ds2, p2, q2, rfl, rfl, rfl, h2, r2⟩ := trodAll_cons r1
  obtain ⟨v3, vs3, d3, ds3, p3, q3, rfl, rfl, rfl, h3, r3⟩ := trodAll_cons r2
  obtain ⟨v4, vs4, d4, ds4, p4, q4, rfl, rfl, rfl, h4, r4⟩ := trodAll_cons r3
  obtain ⟨v5, vs5, d5, ds5, p5, q5, rfl, rfl, rfl, h5, r5⟩ := trodAll_cons r4
  obtain ⟨v6, vs6, d6, ds6, p6, q6, rfl, rfl, rfl, h6, r6⟩ := trodAll_cons r5
  obtain ⟨v7, vs7, d7, ds7, p7, q7, rfl, rfl, rfl, h7, r7⟩ := trodAll_cons r6
  obtain ⟨rfl, rfl, rfl⟩ := trodAll_nil r7
  obtain rfl : args = #[v0, v1, v2, v3, v4, v5, v6, v7] := by cases args; simp_all
  obtain ⟨rfl, rfl⟩ := trodVars_none hV
  obtain ⟨s0, rfl, rfl, rfl, ws0⟩ := open_string Trym.underlying9 (hval 0 9 v0 rfl rfl) h0
  obtain ⟨s1, rfl, rfl, rfl, ws1⟩ := open_string Trym.underlying9 (hval 1 9 v1 rfl rfl) h1
  obtain ⟨s2, rfl, rfl, rfl, ws2⟩ := open_string Trym.underlying9 (hval 2 9 v2 rfl rfl) h2
  obtain ⟨s3, rfl, rfl, rfl, ws3⟩ := open_string Trym.underlying9 (hval 3 9 v3 rfl rfl) h3
  obtain ⟨s4, rfl, rfl, rfl, ws4⟩ := open_string Trym.underlying9 (hval 4 9 v4 rfl rfl) h4
  obtain ⟨a5, len5, cap5, rfl⟩ := okWide_slice Trym.underlying32 (hval 5 32 v5 rfl rfl)
  obtain ⟨a6, len6, cap6, rfl⟩ := okWide_slice Trym.underlying32 (hval 6 32 v6 rfl rfl)
  obtain ⟨a7, len7, cap7, rfl⟩ := okWide_slice Trym.underlying33 (hval 7 33 v7 rfl rfl)
  have k5 := h5
  have lt5 : ∀ x ∈ p5, x.block < W.heap.size := by obtain ⟨m, hm⟩ := k5; exact DataW.trod_lt m _ _ _ hm
  have k6 := h6
  have lt6 : ∀ x ∈ p6, x.block < W.heap.size := by obtain ⟨m, hm⟩ := k6; exact DataW.trod_lt m _ _ _ hm
  have k7 := h7
  have lt7 : ∀ x ∈ p7, x.block < W.heap.size := by obtain ⟨m, hm⟩ := k7; exact DataW.trod_lt m _ _ _ hm
  obtain ⟨z5, w5⟩ : ∃ s, SArg W a5 len5 cap5 s := by
    obtain ⟨fuel, hf⟩ := h5
    rcases open_strings Trym.underlying32 Trym.underlying9 (by kernel_rfl) hf with ⟨hcs, _⟩ | ⟨x, l, c, zs, hcs, _, hl, hm, hz, _, hcell, _⟩
    · simp [Value.cells] at hcs
      exact ⟨fun _ => ByteArray.empty, .inl hcs⟩
    · simp [Value.cells] at hcs
      obtain ⟨rfl, rfl, rfl⟩ := hcs
      have hz' : zs.length = cap5 := by simpa using hz
      exact ⟨_, sarg (hz'.symm ▸ hl) hcell⟩
  obtain ⟨z6, w6⟩ : ∃ s, SArg W a6 len6 cap6 s := by
    obtain ⟨fuel, hf⟩ := h6
    rcases open_strings Trym.underlying32 Trym.underlying9 (by kernel_rfl) hf with ⟨hcs, _⟩ | ⟨x, l, c, zs, hcs, _, hl, hm, hz, _, hcell, _⟩
    · simp [Value.cells] at hcs
      exact ⟨fun _ => ByteArray.empty, .inl hcs⟩
    · simp [Value.cells] at hcs
      obtain ⟨rfl, rfl, rfl⟩ := hcs
      have hz' : zs.length = cap6 := by simpa using hz
      exact ⟨_, sarg (hz'.symm ▸ hl) hcell⟩
  obtain ⟨z7, w7⟩ : ∃ s, IArg W a7 len7 cap7 s := by
    obtain ⟨fuel, hf⟩ := h7
    rcases open_ints Trym.underlying33 Trym.underlying21 (by kernel_rfl) hf with ⟨hcs, _⟩ | ⟨x, l, c, zs, hcs, _, hl, hm, hz, _, hcell, _⟩
    · simp [Value.cells] at hcs
      exact ⟨fun _ => 0, .inl hcs⟩
    · simp [Value.cells] at hcs
      obtain ⟨rfl, rfl, rfl⟩ := hcs
      have hz' : zs.length = cap7 := by simpa using hz
      exact ⟨_, iarg (hz'.symm ▸ hl) hcell⟩
  clear hA0 hval0
  refine (walk s0 s1 s2 s3 s4 a5 len5 cap5 z5 a6 len6 cap6 z6 a7 len7 cap7 z7 W w5 w6 w7).mono fun e W' ⟨he, bel⟩ => ?_
  subst he
  exact ⟨_, rfl, _, _, _, [], _, [], hW', trodAll_mk1 (shut_bool Trym.underlying4 _), (trodAll_cons_mk (shut_string Trym.underlying9 ws0) (trodAll_cons_mk (shut_string Trym.underlying9 ws1) (trodAll_cons_mk (shut_string Trym.underlying9 ws2) (trodAll_cons_mk (shut_string Trym.underlying9 ws3) (trodAll_cons_mk (shut_string Trym.underlying9 ws4) (trodAll_cons_mk (Below.trod laidOut (by kernel_rfl) (of_decide_eq_true (by kernel_rfl)) k5 bel lt5) (trodAll_cons_mk (Below.trod laidOut (by kernel_rfl) (of_decide_eq_true (by kernel_rfl)) k6 bel lt6) (trodAll_cons_mk (Below.trod laidOut (by kernel_rfl) (of_decide_eq_true (by kernel_rfl)) k7 bel lt7) trodAll_mk0)))))))), rfl, bel.frame _, fun h => by cases h⟩

theorem over : Rows.fnServedPortsIsTheTCPSubsequenceRow.holds Trym.pinned (OpenSpec.ofChange Rows.fnServedPortsIsTheTCPSubsequenceSpec) :=
  OpenClaim.holds_of_wide 6 Trym.f6 rfl rfl rfl rfl rfl rfl rfl ⟨rfl, rfl, rfl, rfl, rfl⟩ rfl rfl rfl rfl rfl (by kernel_rfl) Trym.func6 (by kernel_rfl)
    (of_decide_eq_true (by kernel_rfl)) (by unfold Func.isWrapper; first | (rw [if_pos (by decide +kernel)]; kernel_rfl) | (rw [if_neg (by decide +kernel)]; exact ⟨rfl, rfl⟩))
    (fun os started H enc _ => lifted os started H enc)

/-- ████ THE STATEMENT ████ -/
theorem proved : Rows.FnServedPortsIsTheTCPSubsequenceSaid := over
end Go.Proofs.Qxb6603339aMods.fnServedPortsIsTheTCPSubsequence
