import Derived.Test.Qxb6603316aModsWm
import Derived.Test.Qxb6603316aModsWn
namespace Go.Proofs.Qxb6603316aMods
open Go.RowKit
set_option linter.unusedVariables false
set_option linter.unusedSimpArgs false

theorem u8s_get {xs : List Int} {i : Nat} (h : i < xs.length) : (u8s xs)[i]? = some (.int .u8 (xs.getD i 0)) := by
  unfold u8s
  rw [List.getElem?_map]
  simp [h]

set_option maxRecDepth 100000 in
theorem model19_no (g n p : Nat) (col : Int) (t : Nat → Int) (w : World) (hn : n ≤ 1048576) (hp : p < n) (hl : t (n - 1) = 10) (hc : Txt w g 0 n t) (hs : startB (t p) (t (p + 1)) = false) :
    Calls Trym.prog 19 #[.slice (some ⟨g, 0, none⟩) n n, .int .i64 p, .int .i64 col] w fun e w' => e = .returned (.tuple #[.bool false, .int .i64 p, .slice none 0 0, .bool false]) ∧ w' = w := by
  have HL : Hid (t (n - 1) = 10) := hl
  clear hl
  go_enter Trym.func19, Trym.ntmps19
  go_wp2_with (go_at_call 27; refine (start27 g 0 n n p t _ hn hp HL.out hc).mono ?_; rintro e w' ⟨rfl, hw⟩; obtain rfl := hw.symm)
  (try simp only [Exit.inBlock, Exit.then])
  refine bodyPost_ret (results_tmp4 rfl _ _ _) rfl ?_
  exact ⟨rfl, rfl⟩

theorem model19_all (g n p : Nat) (col : Int) (t : Nat → Int) (w : World) (hn : n ≤ 1048576) (hp : p < n) (hl : t (n - 1) = 10) (hc : Txt w g 0 n t) (hg : g < w.heap.size) :
    Calls Trym.prog 19 #[.slice (some ⟨g, 0, none⟩) n n, .int .i64 p, .int .i64 col] w fun e w' => ∃ v, ∃ (ok : Bool) (pos : Nat) (acc : List Int) (m : Bool), e = .returned (.tuple #[.bool ok, .int .i64 pos, v, .bool m]) ∧ realAns t n col p = (ok, pos, acc, m) ∧
      (∃ b, w.heap.size ≤ b ∧ w'.ownsRow b 5 1 v acc.length (u8s acc)) ∧ Below w.heap.size w w' := by
  by_cases hs : startB (t p) (t (p + 1)) = true
  · have hR : realAns t n col p = if colonB t n p then (false, p, [], false) else foldC t n p (chainR t n col n p) (cutOf t n p) [] false := by
      unfold realAns
      rw [if_pos hs, loop_fold]
    exact model19 g n p col t w hn hp hl hc hg hs (realAns t n col p) hR
  · have hs' : startB (t p) (t (p + 1)) = false := by simpa using hs
    refine (model19_no g n p col t w hn hp hl hc hs').mono ?_
    rintro e w' ⟨rfl, rfl⟩
    exact ⟨_, false, p, [], false, rfl, by unfold realAns; rw [if_neg hs], ⟨_, Nat.le_refl _, World.ownsRow_nil _ _ _ _⟩, Below.refl _ _⟩

theorem Rd.drewN {w : World} {v : Value} {xs : List Int} (h : Rd w v xs) (q : Nat) : Rd (w.drewN q) v xs := h

theorem own_rd {w : World} {base : Nat} {v : Value} {acc : List Int} (h : w.ownsRow base 5 1 v acc.length (u8s acc)) : Rd w v acc := by
  rcases h.2 with ⟨h1, h2⟩ | ⟨g, cap, cur, h1, _⟩
  · exact ⟨none, 0, by rw [h1, h2], fun hne => absurd (List.eq_nil_of_length_eq_zero h2) hne⟩
  · refine ⟨_, cap, h1, fun _ => ⟨g, 0, rfl, fun i hi => ?_⟩⟩
    rw [h1] at h
    rw [Nat.zero_add, h.cellAt i (by omega)]
    simp [u8s, hi]

theorem own_max {w : World} {base n : Nat} {v : Value} {xs : List Value} (h : w.ownsRow base 5 1 v n xs) : n ≤ 9223372036854775807 := by
  rcases h.2 with ⟨_, h2⟩ | ⟨g, cap, cur, _, _, _, h1, h2, _⟩
  · omega
  · unfold maxLen at h2; omega

theorem below_grown {w w' : World} (h : Below w.heap.size w w') : w.grownBy w' none := ⟨h.os, h.tape, h.output, h.size, fun k hk _ => h.block k hk⟩

theorem Old.later {w w' : World} {v0 : Value} {nd : Nat} {D : List Int} {ao : Option Addr} (h : Old w v0 nd D ao) (hb : Below w.heap.size w w') : Old w' v0 nd D ao :=
  ⟨h.form, h.nil, h.len, h.at hb, fun b e => Nat.lt_of_lt_of_le (h.low b e) hb.size⟩

theorem cell_lt {w : World} {a : Addr} {v : Value} (h : w.cell? a = some v) : a.block < w.heap.size := by
  unfold World.cell? at h
  by_cases hb : a.block < w.heap.size
  · exact hb
  · rw [Array.getElem?_eq_none (by omega)] at h; simp at h

/-- how the buffer looks behind the call -/
def AForm (wd : World) (nd : Nat) (D acc : List Int) (vd : Value) : Prop :=
  (vd = .slice none 0 0 ∧ nd = 0 ∧ acc = []) ∨
  ∃ gd ca, vd = .slice (some ⟨gd, 0, none⟩) (nd + acc.length) ca ∧ nd + acc.length ≤ ca ∧ ∀ i, i < nd + acc.length → wd.cell? ⟨gd, i, none⟩ = some (.int .u8 ((D ++ acc).getD i 0))

theorem Buf.form {w wd : World} {v0 : Value} {nd : Nat} {D acc : List Int} {vd : Value} {ao : Option Addr} (h : Buf w v0 nd D wd vd acc) (hO : Old w v0 nd D ao) (hb : Below w.heap.size w wd) (ha : ao = none ∨ ∃ b, ao = some ⟨b, 0, none⟩) : AForm wd nd D acc vd := by
  rcases h with ⟨rfl, rfl⟩ | h
  · rcases ha with rfl | ⟨b, rfl⟩
    · have := hO.nil rfl
      exact .inl ⟨by rw [hO.form, this], this, rfl⟩
    · refine .inr ⟨b, nd, by rw [hO.form]; rfl, by simp, fun i hi => ?_⟩
      have h1 := hO.at hb _ rfl i (.int .u8 (D.getD i 0)) (u8s_get (by rw [hO.len]; simpa using hi))
      have h2 : (⟨b, 0, none⟩ : Addr).add i = ⟨b, i, none⟩ := by unfold Addr.add; split <;> simp_all
      rw [h2] at h1
      rw [h1, List.append_nil]
  · rcases h.2 with ⟨h1, h2⟩ | ⟨gd, ca, cur, h1, _, _, h4, _⟩
    · exact .inl ⟨h1, by omega, List.eq_nil_of_length_eq_zero (by omega)⟩
    · refine .inr ⟨gd, ca, h1, h4, fun i hi => ?_⟩
      rw [h1] at h
      rw [h.cellAt i (by omega)]
      have hl : (D ++ acc).length = nd + acc.length := by
        have := h.1
        rw [u8s_length] at this
        simpa using this
      exact u8s_get (by omega)

theorem Old.rd {w : World} {v0 : Value} {nd : Nat} {D : List Int} {ao : Option Addr} (hO : Old w v0 nd D ao) (ha : ao = none ∨ ∃ b, ao = some ⟨b, 0, none⟩) : Rd w (.slice ao nd nd) D := by
  refine ⟨ao, nd, by rw [hO.len], fun hne => ?_⟩
  rcases ha with rfl | ⟨b, rfl⟩
  · have := hO.nil rfl
    have := hO.len
    exact absurd (List.eq_nil_of_length_eq_zero (by omega)) hne
  · refine ⟨b, 0, rfl, fun i hi => ?_⟩
    have h1 := hO.cells _ rfl i (.int .u8 (D.getD i 0)) (by simp [u8s, hi])
    have h2 : (⟨b, 0, none⟩ : Addr).add i = ⟨b, 0 + i, none⟩ := by unfold Addr.add; split <;> simp_all
    rw [h2] at h1
    exact h1

namespace fnBlockPlainMatchesModel

/-- WHAT THE WALK IS TOLD OF A SLICE OF INTEGERS THAT CAME IN: it is nil; or it leads to a row of 'cap' cells, the numbers 'zs' (the first 'len' are its elements, the rest its spare room), each fitting its kind. -/
def IsRow (k : IntKind) (w : World) (a : Option Addr) (len cap : Nat) (zs : List Int) : Prop :=
  (a = none ∧ len = 0 ∧ cap = 0 ∧ zs = []) ∨
  ∃ x, a = some x ∧ len ≤ cap ∧ cap ≤ maxLen ∧ zs.length = cap ∧ (∀ i, i < zs.length → w.cell? (x.add i) = some (.int k (zs.getD i 0))) ∧ ∀ n ∈ zs, (Lit.int k n).wf = true

theorem IsRow.le {k : IntKind} {w : World} {a : Option Addr} {len cap : Nat} {zs : List Int} (h : IsRow k w a len cap zs) : len ≤ 9223372036854775807 := by
  rcases h with ⟨_, h, _⟩ | ⟨_, _, h1, h2, _⟩
  · omega
  · unfold maxLen at h2; omega

theorem IsRow.txt {w : World} {a : Option Addr} {len cap : Nat} {zs : List Int} (h : IsRow .u8 w a len cap zs) (h0 : 0 < len) : ∃ g off, a = some ⟨g, off, none⟩ ∧ Txt w g off len (fun i => zs.getD i 0) ∧ g < w.heap.size := by
  rcases h with ⟨_, h, _⟩ | ⟨x, rfl, hl, hm, hz, hcell, hwz⟩
  · omega
  · obtain ⟨g, off, spot⟩ := x
    have hspot : spot = none := by simpa [Addr.add] using World.cell?_spot (hcell 0 (by omega))
    subst hspot
    refine ⟨g, off, rfl, fun i hi => ?_, ?_⟩
    · have h := hcell i (by omega)
      by_cases hi0 : i = 0
      · subst hi0; simpa [Addr.add] using h
      · simpa [Addr.add, hi0] using h
    · have h := hcell 0 (by omega)
      have h1 := cell_lt h
      simpa [Addr.add] using h1

theorem IsRow.below {w w' : World} {a : Option Addr} {len cap : Nat} {zs : List Int} (h : IsRow .u8 w a len cap zs) (hb : Below w.heap.size w w') : IsRow .u8 w' a len cap zs := by
  rcases h with h | ⟨x, h1, h2, h3, h4, h5, h6⟩
  · exact .inl h
  · exact .inr ⟨x, h1, h2, h3, h4, fun i hi => by rw [hb.cell (cell_lt (h5 i hi))]; exact h5 i hi, h6⟩

theorem clone_row {w : World} {a : Option Addr} {len cap : Nat} {zs : List Int} (h : IsRow .u8 w a len cap zs) (hl : len ≤ 1048576) :
    Calls Trym.prog 12 #[.slice a len cap] w fun e w' => ∃ v D ao, e = .returned v ∧ Old w' v len D ao ∧ (ao = none ∨ ∃ b, ao = some ⟨b, 0, none⟩) ∧ Below w.heap.size w w' ∧ ∀ k, v.ownBlock = some k → w.heap.size ≤ k ∧ k < w'.heap.size := by
  by_cases h0 : len = 0
  · subst h0
    rcases h with ⟨rfl, _, rfl, _⟩ | ⟨x, rfl, _⟩
    · refine (clone_nil w).mono ?_
      rintro e w' ⟨rfl, rfl⟩
      exact ⟨_, [], none, rfl, ⟨rfl, fun _ => rfl, rfl, (fun b e => by cases e), (fun b e => by cases e)⟩, .inl rfl, Below.refl _ _, fun k e => by cases e⟩
    · refine (clone_zero x cap w).mono ?_
      rintro e w' ⟨rfl, hown, hb⟩
      have hlt := hown.lt w.heap.size rfl
      refine ⟨_, [], some ⟨w.heap.size, 0, none⟩, rfl, ⟨rfl, (fun e => by cases e), rfl, fun b e j u hu => ?_, fun b e => ?_⟩, .inr ⟨_, rfl⟩, hb, fun k e => ?_⟩
      · simp [u8s] at hu
      · cases e; exact hlt.2
      · simp only [Value.ownBlock, Option.some.injEq] at e; subst e; exact hlt
  · obtain ⟨g, off, rfl, ht, hg⟩ := h.txt (by omega)
    refine (clone_any g off len cap _ w hl (.inr hg) ht).mono ?_
    rintro e w' ⟨rfl, hown, hb⟩
    have hlt := hown.lt w.heap.size rfl
    refine ⟨_, (List.range len).map (fun i => zs.getD i 0), some ⟨w.heap.size, 0, none⟩, rfl, ⟨rfl, (fun e => by cases e), by simp, fun b e j u hu => ?_, fun b e => ?_⟩, .inr ⟨_, rfl⟩, hb, fun k e => ?_⟩
    · cases e
      refine hown.cells rfl j u ?_
      have : u8s ((List.range len).map (fun i => zs.getD i 0)) = bts (fun i => zs.getD i 0) len := by simp [u8s, bts]
      rw [this] at hu
      exact hu
    · cases e; exact hlt.2
    · simp only [Value.ownBlock, Option.some.injEq] at e; subst e; exact hlt


set_option maxRecDepth 100000 in
set_option maxHeartbeats 2000000 in
theorem walk (a0 : Option Addr) (len0 cap0 : Nat) (z0 : List Int) (a1 : Int) (a2 : Option Addr) (len2 cap2 : Nat) (z2 : List Int) (a3 : Int) (w : World) (w0 : IsRow .u8 w a0 len0 cap0 z0) (w1 : (Lit.int .i64 a1).wf = true) (w2 : IsRow .u8 w a2 len2 cap2 z2) (w3 : (Lit.int .i64 a3).wf = true) :
    Calls Trym.prog 6 #[.slice a0 len0 cap0, .int .i64 a1, .slice a2 len2 cap2, .int .i64 a3] w fun e w' => e = .returned (.bool true) ∧ Below w.heap.size w w' := by
  have q22 : ∀ (w : World) (a : Option Addr) (n c n' c' : Nat), (binOp .eql 22 (.slice a n c) (.slice none n' c')).run Trym.prog w = .ok (.bool a.isNone) w := fun w a n c n' c' => Lib.run_eql_slice_nil w _ _ a n c n' c' Trym.underlying22
  have hl0 := w0.le
  have hl2 := w2.le
  clear w1 w3
  go_enter Trym.func6, Trym.ntmps6
  go_wp2_with fail
  refine (bytes18 a0 len0 cap0 a2 len2 cap2 a1 a3 _ hl0 hl2).mono ?_
  rintro e w' ⟨h1 | ⟨h1, hle⟩, hw⟩
  · obtain rfl := hw.symm
    subst h1
    go_wp2
    go_ret
    exact ⟨rfl, Below.refl _ _⟩
  obtain rfl := hw.symm
  subst h1
  clear hl0 hl2
  have hle0 : len0 ≤ 1048576 := by omega
  have hle2 : len2 ≤ 1048576 := by omega
  go_wp2_with fail
  by_cases hz0 : len0 = 0
  · subst hz0
    refine (domain_nil _ _ _ _).mono ?_
    rintro e w' ⟨rfl, hw⟩
    obtain rfl := hw.symm
    go_wp2
    go_ret
    exact ⟨rfl, Below.refl _ _⟩
  obtain ⟨g, off, rfl, ht, hg⟩ := w0.txt (by omega)
  obtain ⟨t, htt⟩ : ∃ t : Nat → Int, t = fun i => z0.getD i 0 := ⟨_, rfl⟩
  rw [← htt] at ht
  clear htt w0
  refine (domain_any g off len0 cap0 _ a1 _ (by omega) hle0 (ht (len0 - 1) (by omega))).mono ?_
  rintro e w' ⟨⟨rfl⟩ | ⟨rfl, h10, hp0, hp1⟩, hw⟩
  · obtain rfl := hw.symm
    go_wp2
    go_ret
    exact ⟨rfl, Below.refl _ _⟩
  obtain rfl := hw.symm
  have HL : Hid (t (len0 - 1) = 10) := h10
  clear h10
  obtain ⟨p, rfl⟩ := Int.eq_ofNat_of_zero_le hp0
  have hp : p < len0 := by omega
  go_wp2_with fail
  refine (clone_any g off len0 cap0 t _ hle0 (.inr hg) ht).mono ?_
  rintro e wa ⟨rfl, hown, hbel⟩
  have hT : Txt wa w.heap.size 0 len0 t := fun i hi => by
    rw [Nat.zero_add, hown.cellAt i (by omega)]; simp [bts, hi]
  have hsz : w.heap.size < wa.heap.size := (hown.lt _ rfl).2
  have w2a := w2.below hbel
  clear hown w2 ht
  go_wp2_with fail
  refine (clone_row w2a hle2).mono ?_
  rintro e wb ⟨v0, D, ao, rfl, hO, hao, hbel2, hv0⟩
  have hT2 : Txt wb w.heap.size 0 len0 t := hT.below hbel2 hsz
  have hb2 : Below w.heap.size w wb := hbel.trans (hbel2.mono (by omega))
  have hsz2 : w.heap.size < wb.heap.size := by have := hbel2.size; omega
  have hv1 : v0.ownBlock ≠ some w.heap.size := fun e => by have := (hv0 _ e).1; omega
  have hf0 := hO.form
  subst hf0
  clear hT w2a hbel hbel2
  go_wp2_with fail
  refine (model19_all w.heap.size len0 p a3 t _ hle0 hp HL.out hT2 hsz2).mono ?_
  rintro e wc ⟨va, ok, pos, acc, m, rfl, hR, ⟨b, hbb, hva⟩, hbel3⟩
  have hT3 : Txt wc w.heap.size 0 len0 t := hT2.below hbel3 hsz2
  have hO3 := hO.later hbel3
  have hb3 : Below w.heap.size w wc := hb2.trans (hbel3.mono (by omega))
  have hsz3 : w.heap.size < wc.heap.size := by have := hbel3.size; omega
  clear hT2 hO hb2
  go_wp2_with fail
  refine (zz20 a3 hO3 hT3 hsz3 hv1 (fun k e => by have := (hv0 k e).2; have := hbel3.size; omega) hle0 hp HL.out hle2).mono ?_
  rintro e wd ⟨v, vd, ok2, pos2, acc2, m2, hR2, hbel4, hT4, hBuf, hcase⟩
  have he := hR.symm.trans hR2
  simp only [Prod.mk.injEq] at he
  obtain ⟨rfl, rfl, rfl, rfl⟩ := he
  have hb4 : Below w.heap.size w wd := hb3.trans (hbel4.mono (by omega))
  have hAF := hBuf.form hO3 hbel4 hao
  have hDl : D.length = len2 := hO3.len
  have hrD : Rd wd (.slice ao len2 len2) D := (hO3.later hbel4).rd hao
  have hva4 : wd.ownsRow b 5 1 va acc.length (u8s acc) := hva.kept (below_grown hbel4) (by cases hk : va.ownBlock with | none => exact .inl rfl | some k => exact .inr (by simp))
  have hrA : Rd wd va acc := own_rd hva4
  have hmx := own_max hva4
  have hsum : len2 + acc.length ≤ 9223372036854775807 := by
    rcases hBuf with ⟨h1, _⟩ | h1
    · rw [h1]; simp; omega
    · exact own_max h1
  obtain ⟨av, cv, hvv, _⟩ := hrA
  have hrA : Rd wd va acc := own_rd hva4
  subst hvv
  obtain ⟨vv, pp, rfl, hF, hTr⟩ : ∃ vv pp, e = .returned (.tuple #[vv, .bool ok, .int .i64 pp, vd]) ∧ (ok = false → vv = .slice none 0 0 ∧ pp = (p : Int)) ∧ (ok = true → pp = (pos : Int) ∧ Rd wd vv (if m then acc else sub t p pos)) := by
    rcases hcase with ⟨h1, h2⟩ | ⟨h1, h2, h3⟩
    · exact ⟨_, _, by rw [h1]; exact h2, fun _ => ⟨rfl, rfl⟩, fun h => by rw [h1] at h; cases h⟩
    · exact ⟨_, _, by rw [h1]; exact h2, (fun h => by rw [h1] at h; cases h), fun _ => ⟨rfl, h3⟩⟩
  have HF : Hid (ok = false → vv = .slice none 0 0 ∧ pp = (p : Int)) := hF
  have HT : Hid (ok = true → pp = (pos : Int) ∧ Rd wd vv (if m then acc else sub t p pos)) := hTr
  have HR : Hid (realAns t len0 a3 p = (ok, pos, acc, m)) := hR
  have HD : Hid (D.length = len2) := hDl
  clear hF hTr hR hR2 hcase hBuf hva hva4 hO3 hao hbel3 hbel4 hDl hv0 hv1 hT3 hb3 hbb
  have HB2 : ∀ (e : Ending) (wx : World), (e = .returned (.bool true) ∧ ∃ q, wx = wd.drewN q) → True := fun _ _ _ => trivial
  clear HB2
  rcases hAF with ⟨rfl, hn0, hacc0⟩ | ⟨gd, ca, rfl, hca, hcells⟩
  · subst hn0
    subst hacc0
    have hD0 : D = [] := List.eq_nil_of_length_eq_zero HD.out
    subst hD0
    go_wp2_with fail
    refine (eq_rd _ _ [] _ (by simp) ⟨_, _, rfl, fun h => absurd rfl h⟩ hrD).mono ?_
    rintro e1 we ⟨rfl, q1, rfl⟩
    go_wp2_with fail
    refine (eq_rd _ _ [] _ (by simp) ⟨_, _, rfl, fun h => absurd rfl h⟩ (hrA.drewN q1)).mono ?_
    rintro e2 we2 ⟨rfl, q2, rfl⟩
    cases ok
    · obtain ⟨rfl, rfl⟩ := HF.out rfl
      clear HF HT
      go_wp2
      go_ret
      exact ⟨rfl, below_drewN hb4 _⟩
    · obtain ⟨rfl, hrv⟩ := HT.out rfl
      clear HF HT
      cases m
      · have hps := realAns_single HR.out hp
        have hrv' : Rd wd vv (sub t p pos) := hrv
        clear hrv
        go_wp2_with fail
        refine (eq_rd _ _ (sub t p pos) _ (by rw [sub_length]; omega) (hrv'.drewN _) ((hT4.rd (a := p) (b := pos) (c := len0 - p) hps.2).drewN _)).mono ?_
        rintro e3 we3 ⟨rfl, q3, rfl⟩
        go_wp2
        go_ret
        exact ⟨rfl, below_drewN hb4 _⟩
      · have hrv' : Rd wd vv [] := hrv
        clear hrv
        go_wp2_with fail
        refine (eq_rd _ _ [] _ hmx (hrv'.drewN _) (hrA.drewN _)).mono ?_
        rintro e3 we3 ⟨rfl, q3, rfl⟩
        go_wp2
        go_ret
        exact ⟨rfl, below_drewN hb4 _⟩
  · have hcells' := hcells
    have hr1 : Rd wd (.slice (some ⟨gd, 0, none⟩) len2 ca) D := ⟨_, ca, by rw [HD.out], fun _ => ⟨gd, 0, rfl, fun i hi => by
      have h1 := hcells' i (by have := HD.out; omega)
      rw [Nat.zero_add, h1]
      congr 2
      simp [List.getElem?_append_left hi]⟩⟩
    have hr2 : ∀ c, Rd wd (.slice (some ⟨gd, len2, none⟩) acc.length c) acc := fun c => ⟨_, c, rfl, fun _ => ⟨gd, len2, rfl, fun i hi => by
      have h1 := hcells' (len2 + i) (by omega)
      rw [h1]
      congr 2
      have hd := HD.out
      simp only [List.getD_eq_getElem?_getD]
      rw [List.getElem?_append_right (by omega), hd, Nat.add_sub_cancel_left]⟩⟩
    have Hr2 : Hid _ := hr2
    clear hcells hcells' hr2
    by_cases hacc : acc = []
    · subst hacc
      clear Hr2
      go_wp2_with fail
      refine (eq_rd _ _ D _ (by have := HD.out; omega) hr1 hrD).mono ?_
      rintro e1 we ⟨rfl, q1, rfl⟩
      go_wp2_with fail
      all_goals
        refine (eq_rd _ _ [] _ (by simp) ⟨_, _, rfl, fun h => absurd rfl h⟩ (hrA.drewN q1)).mono ?_
        rintro e2 we2 ⟨rfl, q2, rfl⟩
        cases ok
        · obtain ⟨rfl, rfl⟩ := HF.out rfl
          clear HF HT
          go_wp2
          go_ret
          exact ⟨rfl, below_drewN hb4 _⟩
        · obtain ⟨rfl, hrv⟩ := HT.out rfl
          clear HF HT
          cases m
          · have hps := realAns_single HR.out hp
            have hrv' : Rd wd vv (sub t p pos) := hrv
            clear hrv
            go_wp2_with fail
            refine (eq_rd _ _ (sub t p pos) _ (by rw [sub_length]; omega) (hrv'.drewN _) ((hT4.rd (a := p) (b := pos) (c := len0 - p) hps.2).drewN _)).mono ?_
            rintro e3 we3 ⟨rfl, q3, rfl⟩
            go_wp2
            go_ret
            exact ⟨rfl, below_drewN hb4 _⟩
          · have hrv' : Rd wd vv [] := hrv
            clear hrv
            go_wp2_with fail
            refine (eq_rd _ _ [] _ hmx (hrv'.drewN _) (hrA.drewN _)).mono ?_
            rintro e3 we3 ⟨rfl, q3, rfl⟩
            go_wp2
            go_ret
            exact ⟨rfl, below_drewN hb4 _⟩
    · have hpos : 0 < acc.length := List.length_pos_iff.2 hacc
      have Hacc : Hid (acc ≠ []) := hacc
      clear hacc
      go_wp2_with fail
      refine (eq_rd _ _ D _ (by have := HD.out; omega) hr1 hrD).mono ?_
      rintro e1 we ⟨rfl, q1, rfl⟩
      go_wp2_with fail
      refine (eq_rd _ _ acc _ hmx ((Hr2.out _).drewN q1) (hrA.drewN q1)).mono ?_
      rintro e2 we2 ⟨rfl, q2, rfl⟩
      cases ok
      · obtain ⟨rfl, rfl⟩ := HF.out rfl
        clear HF HT
        go_wp2
        go_ret
        exact ⟨rfl, below_drewN hb4 _⟩
      · obtain ⟨rfl, hrv⟩ := HT.out rfl
        clear HF HT
        cases m
        · have hps := realAns_single HR.out hp
          have hrv' : Rd wd vv (sub t p pos) := hrv
          clear hrv
          go_wp2_with fail
          refine (eq_rd _ _ (sub t p pos) _ (by rw [sub_length]; omega) (hrv'.drewN _) ((hT4.rd (a := p) (b := pos) (c := len0 - p) hps.2).drewN _)).mono ?_
          rintro e3 we3 ⟨rfl, q3, rfl⟩
          go_wp2
          go_ret
          exact ⟨rfl, below_drewN hb4 _⟩
        · have hrv' : Rd wd vv acc := hrv
          clear hrv
          go_wp2_with fail
          refine (eq_rd _ _ acc _ hmx (hrv'.drewN _) (hrA.drewN _)).mono ?_
          rintro e3 we3 ⟨rfl, q3, rfl⟩
          go_wp2
          go_ret
          exact ⟨rfl, below_drewN hb4 _⟩

end fnBlockPlainMatchesModel
end Go.Proofs.Qxb6603316aMods
