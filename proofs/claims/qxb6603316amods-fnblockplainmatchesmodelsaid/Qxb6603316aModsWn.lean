import Derived.Test.Qxb6603316aModsWk
namespace Go.Proofs.Qxb6603316aMods
open Go.RowKit
set_option linter.unusedVariables false

/-- the scanner's whole answer -/
def realAns (t : Nat → Int) (n : Nat) (col : Int) (p : Nat) : Bool × Nat × List Int × Bool :=
  if startB (t p) (t (p + 1)) then (if colonB t n p then (false, p, [], false) else loopR t n col p n p [] false) else (false, p, [], false)

theorem block33_all {w0 : World} {v0 : Value} {B g n nd : Nat} {ao : Option Addr} {t : Nat → Int} {D : List Int} {p : Nat} {w : World} (col : Int) (hO : Old w0 v0 nd D ao) (h : Mem w0 v0 B g n nd t D p w v0 []) (hn : n ≤ 1048576) (hp : p < n) (hl : t (n - 1) = 10) (hnd : nd ≤ 1048576) :
    Calls Trym.prog 33 #[.pointer (some ⟨B, 0, none⟩), .int .i64 col] w fun e w' => ∃ vd' ok pos acc m, realAns t n col p = (ok, pos, acc, m) ∧
      ((ok = false ∧ e = .returned (.tuple #[.slice none 0 0, .bool false]) ∧ Mem w0 v0 B g n nd t D p w' vd' acc) ∨
       (ok = true ∧ ∃ v, e = .returned (.tuple #[v, .bool true]) ∧ Rd w' v (if m then acc else sub t p pos) ∧ Mem w0 v0 B g n nd t D pos w' vd' acc)) := by
  by_cases hs : startB (t p) (t (p + 1)) = true
  · by_cases hc : colonB t n p = true
    · refine (block33_colon col h hn hp hl hs hc).mono ?_
      rintro e w' ⟨he, hm⟩
      exact ⟨v0, false, p, [], false, by unfold realAns; rw [if_pos hs, if_pos hc], .inl ⟨rfl, he, hm⟩⟩
    · have hc' : colonB t n p = false := by simpa using hc
      refine (block33 col hO h hn hp hl hs hc' hO.len hnd).mono ?_
      rintro e w' ⟨vd', ok, pos, acc, m, h1, h2⟩
      exact ⟨vd', ok, pos, acc, m, by unfold realAns; rw [if_pos hs, if_neg hc]; exact h1, h2⟩
  · have hs' : startB (t p) (t (p + 1)) = false := by simpa using hs
    refine (block33_no col h hn hp hl hs').mono ?_
    rintro e w' ⟨he, hm⟩
    exact ⟨v0, false, p, [], false, by unfold realAns; rw [if_neg hs], .inl ⟨rfl, he, hm⟩⟩

/-- how the buffer stands behind the call -/
def Buf (w : World) (v0 : Value) (nd : Nat) (D : List Int) (wr : World) (vd : Value) (acc : List Int) : Prop := (acc = [] ∧ vd = v0) ∨ wr.ownsRow w.heap.size 5 1 vd (nd + acc.length) (u8s (D ++ acc))

theorem results_tmp4' {fn : Func} {t u v x : Tmp} (h : fn.results = #[.tmp t, .tmp u, .tmp v, .tmp x]) (tmps : Array Value) (P : Program) (w : World) :
    (results fn tmps).run P w = .ok (.tuple #[tmps.getD t undef, tmps.getD u undef, tmps.getD v undef, tmps.getD x undef]) w := by
  simp [results, h]

set_option maxRecDepth 100000 in
set_option maxHeartbeats 1000000 in
theorem zz20 {v0 : Value} {g n nd : Nat} {ao : Option Addr} {t : Nat → Int} {D : List Int} {p : Nat} {w : World} (col : Int) (hO : Old w v0 nd D ao) (hc : Txt w g 0 n t) (hg : g < w.heap.size) (hv : v0.ownBlock ≠ some g) (hvl : ∀ k, v0.ownBlock = some k → k < w.heap.size) (hn : n ≤ 1048576) (hp : p < n) (hl : t (n - 1) = 10) (hnd : nd ≤ 1048576) :
    Calls Trym.prog 20 #[.slice (some ⟨g, 0, none⟩) n n, .int .i64 p, v0, .int .i64 col] w fun e w' => ∃ v vd' ok pos acc m, realAns t n col p = (ok, pos, acc, m) ∧ Below w.heap.size w w' ∧ Txt w' g 0 n t ∧ Buf w v0 nd D w' vd' acc ∧
      ((ok = false ∧ e = .returned (.tuple #[.slice none 0 0, .bool false, .int .i64 p, vd'])) ∨
       (ok = true ∧ e = .returned (.tuple #[v, .bool true, .int .i64 pos, vd']) ∧ Rd w' v (if m then acc else sub t p pos))) := by
  have HL : Hid (t (n - 1) = 10) := hl
  clear hl
  have HO : Hid (Old w v0 nd D ao) := hO
  have hf := hO.form
  clear hO
  subst hf
  go_enter Trym.func20, Trym.ntmps20
  go_wp2_with fail
  refine (block33_all (w0 := w) (v0 := .slice ao nd nd) (B := w.heap.size) (g := g) (n := n) (nd := nd) (ao := ao) (t := t) (D := D) (p := p) col HO.out ?_ hn hp HL.out hnd).mono ?_
  · refine ⟨by simp, by simp, by simp, by simp, by simp, hc.alloc hg _, .inl ⟨rfl, rfl⟩, ?_, hv, (Below.refl _ _).alloc (Nat.le_refl _) _, by simp, by simp; omega, Nat.le_refl _, by omega⟩
    intro e
    have := hvl _ e
    omega
  rintro e w' ⟨vd', ok, pos, acc, m, hR, ⟨rfl, rfl, hM⟩ | ⟨rfl, v, rfl, hrd, hM⟩⟩
  · have HR : Hid _ := hR
    have c1 := hM.c1
    have c7 := hM.c7
    have HB : Hid (Buf w (.slice ao nd nd) nd D w' vd' acc) := hM.own
    obtain ⟨a7, n7, k7, hv7⟩ : ∃ a n c, vd' = .slice a n c := by
      rcases hM.own with ⟨_, h1⟩ | h1
      · exact ⟨_, _, _, h1⟩
      · rcases h1.2 with ⟨h2, _⟩ | ⟨_, _, _, h2, _⟩
        · exact ⟨_, _, _, h2⟩
        · exact ⟨_, _, _, h2⟩
    subst hv7
    clear hR
    go_wp2
    go_quiet (fail)
    go_wp2
    (try simp only [Exit.inBlock, Exit.then])
    refine bodyPost_ret (results_tmp4' rfl _ _ _) rfl ?_
    exact ⟨.slice none 0 0, _, false, pos, acc, m, HR.out, below_drewN hM.bel _, (hM.drewN nq).tx, HB.out, .inl ⟨rfl, rfl⟩⟩
  · have HR : Hid _ := hR
    have c1 := hM.c1
    have c7 := hM.c7
    have HB : Hid (Buf w (.slice ao nd nd) nd D w' vd' acc) := hM.own
    obtain ⟨a7, n7, k7, hv7⟩ : ∃ a n c, vd' = .slice a n c := by
      rcases hM.own with ⟨_, h1⟩ | h1
      · exact ⟨_, _, _, h1⟩
      · rcases h1.2 with ⟨h2, _⟩ | ⟨_, _, _, h2, _⟩
        · exact ⟨_, _, _, h2⟩
        · exact ⟨_, _, _, h2⟩
    subst hv7
    clear hR
    go_wp2
    go_quiet (fail)
    go_wp2
    (try simp only [Exit.inBlock, Exit.then])
    refine bodyPost_ret (results_tmp4' rfl _ _ _) rfl ?_
    exact ⟨v, _, true, pos, acc, m, HR.out, below_drewN hM.bel _, (hM.drewN nq).tx, HB.out, .inr ⟨rfl, rfl, hrd⟩⟩

theorem eq_same' (g1 o1 c1 g2 o2 c2 n : Nat) (t : Nat → Int) (w : World) (hn : n ≤ 9223372036854775807) (h1 : Txt w g1 o1 n t) (h2 : Txt w g2 o2 n t) :
    Calls Trym.prog 15 #[.slice (some ⟨g1, o1, none⟩) n c1, .slice (some ⟨g2, o2, none⟩) n c2] w fun e w' => e = .returned (.bool true) ∧ ∃ q, w' = w.drewN q := by
  go_enter Trym.func15, Trym.ntmps15
  go_wp2
  go_loopw [5] (fun v wr => ∃ k : Nat, k ≤ n ∧ v = .int .i64 k ∧ ∃ q, wr = w.drewN q) (fun v _ => n - (intOf v).toNat)
  case atStart => exact ⟨0, by omega, rfl, 0, rfl⟩
  case round =>
    obtain ⟨k, hk, rfl, q, rfl⟩ := hrel
    by_cases hlt : k < n
    · have e1 := h1 k hlt
      have e2 := h2 k hlt
      go_wp2
      go_quiet (fail)
      go_wp2
      go_roundw
      case rel => exact ⟨k + 1, by omega, by go_num, _, rfl⟩
      case measure => simp [intOf]; omega
    · go_wp2
      go_ret
      exact ⟨rfl, _, rfl⟩

theorem eq_rd (v1 v2 : Value) (xs : List Int) (w : World) (hn : xs.length ≤ 9223372036854775807) (h1 : Rd w v1 xs) (h2 : Rd w v2 xs) :
    Calls Trym.prog 15 #[v1, v2] w fun e w' => e = .returned (.bool true) ∧ ∃ q, w' = w.drewN q := by
  obtain ⟨a1, c1, rfl, k1⟩ := h1
  obtain ⟨a2, c2, rfl, k2⟩ := h2
  by_cases hx : xs = []
  · subst hx
    refine (eq_zero a1 a2 c1 c2 w).mono ?_
    rintro e w' ⟨he, hw⟩
    exact ⟨he, 0, hw⟩
  · obtain ⟨g1, o1, rfl, q1⟩ := k1 hx
    obtain ⟨g2, o2, rfl, q2⟩ := k2 hx
    exact eq_same' g1 o1 c1 g2 o2 c2 xs.length (fun i => xs.getD i 0) w hn q1 q2

theorem clone_zero (x : Addr) (c : Nat) (w : World) :
    Calls Trym.prog 12 #[.slice (some x) 0 c] w fun e w' => e = .returned (.slice (some ⟨w.heap.size, 0, none⟩) 0 0) ∧ w'.ownsRow w.heap.size 5 1 (.slice (some ⟨w.heap.size, 0, none⟩) 0 0) 0 [] ∧ Below w.heap.size w w' := by
  have q22 : ∀ (w : World) (a : Option Addr) (n c n' c' : Nat), (binOp .eql 22 (.slice a n c) (.slice none n' c')).run Trym.prog w = .ok (.bool a.isNone) w := fun w a n c n' c' => Lib.run_eql_slice_nil w _ _ a n c n' c' Trym.underlying22
  obtain ⟨i0, hi, hz0, hz1, hz2⟩ := info_parts Trym.info5
  go_enter Trym.func12, Trym.ntmps12
  go_wp2_with (at_make; refine wpList_make_full _ rfl _ _ 22 rfl w.heap.size 5 i0 (.int .u8 0) 1 Trym.underlying22 hi hz0 hz1 _ _ _ _ 0 rfl rfl rfl rfl ?b2 ?b3 (Nat.le_refl _) ?_)
  case b2 => omega
  case b3 => unfold maxLen; omega
  intro w0 hown0 hgrow0
  have hb : Below w.heap.size w w0 := (Below.refl _ _).grown hgrow0 (Nat.le_refl _) (fun k h => by cases h)
  have ho : w0.ownsRow w.heap.size 5 1 (.slice (some ⟨w.heap.size, 0, none⟩) 0 0) 0 [] := by
    have h1 := hown0
    have h2 := h1.1
    have h3 := List.eq_nil_of_length_eq_zero (h2.trans (Nat.zero_mul 1))
    rw [h3] at h1
    exact h1
  clear hown0 hgrow0
  go_wp2
  go_loop [4] (fun v => v = .int .i64 0) (fun _ => 0)
  case atStart => rfl
  case round =>
    subst hrel
    go_wp2
    go_ret
    exact ⟨rfl, ho, hb⟩

theorem loopR_true (t : Nat → Int) (n : Nat) (col : Int) (p : Nat) : ∀ (f a : Nat) (acc : List Int), (loopR t n col p f a acc true).2.2.2 = true
  | 0, a, acc => rfl
  | f + 1, a, acc => by
    simp only [loopR]
    split
    · cases h : nextOf t n col (stopOf t n a) with
      | none => rfl
      | some q =>
        obtain ⟨a', br⟩ := q
        simp only []
        split
        · rfl
        · exact loopR_true t n col p f a' _
    · rfl

theorem loopR_single {t : Nat → Int} {n : Nat} {col : Int} {p f a : Nat} {acc acc' : List Int} {ok : Bool} {pos : Nat} (h : loopR t n col p f a acc false = (ok, pos, acc', false)) : pos = cutOf t n a := by
  cases f with
  | zero => simp only [loopR, Prod.mk.injEq] at h; exact h.2.1.symm
  | succ f =>
    simp only [loopR] at h
    split at h
    · cases hx : nextOf t n col (stopOf t n a) with
      | none => rw [hx] at h; simp only [Prod.mk.injEq] at h; exact h.2.1.symm
      | some q =>
        obtain ⟨a', br⟩ := q
        rw [hx] at h
        simp only [] at h
        split at h
        · simp only [Prod.mk.injEq] at h; exact absurd h.2.2.2 (by decide)
        · have := loopR_true t n col p f a' ((((if false = true then acc else sub t p (cutOf t n a)) ++ sep br) ++ sub t a' (cutOf t n a')))
          rw [h] at this
          exact absurd this (by simp)
    · simp only [Prod.mk.injEq] at h; exact h.2.1.symm

/-- where a scalar of one line ends -/
theorem realAns_single {t : Nat → Int} {n : Nat} {col : Int} {p : Nat} {acc : List Int} {pos : Nat} (h : realAns t n col p = (true, pos, acc, false)) (hp : p < n) : p ≤ pos ∧ pos ≤ n := by
  unfold realAns at h
  split at h
  · split at h
    · simp at h
    · have h1 := loopR_single h
      have h2 := trimE_ge t p (stopOf t n p) (stopOf_ge t n p)
      have h3 := cutOf_le t n p
      have h4 := stopOf_lt t hp
      rw [h1]
      unfold cutOf at *
      omega
  · simp at h

end Go.Proofs.Qxb6603316aMods
