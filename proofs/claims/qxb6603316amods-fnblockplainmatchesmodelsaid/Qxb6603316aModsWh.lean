import Derived.Test.Qxb6603316aModsWg
namespace Go.Proofs.Qxb6603316aMods
open Go.RowKit
set_option linter.unusedVariables false

theorem Trym.info3 : (Trym.prog.info? 3).map (fun i => (i.zero, i.size, i.bytes)) = some (some (.int .i64 0), 1, 8) := by kernel_rfl

/-- two slices share no row -/
def Sep (v v' : Value) : Prop := ∀ g, v.ownBlock = some g → v'.ownBlock ≠ some g
theorem Sep.symm {v v' : Value} (h : Sep v v') : Sep v' v := fun g h1 h2 => h g h2 h1
theorem Sep.kept {v v' : Value} (h : Sep v v') : v'.ownBlock = none ∨ v'.ownBlock ≠ v.ownBlock := by
  cases hv : v'.ownBlock with
  | none => exact .inl rfl
  | some g => exact .inr fun e => h g e.symm hv

theorem push_sep {W wr w1 : World} {base e e' : Nat} {v v' : Value} {n n' g : Nat} {xs ys : List Value} {ln cap : Nat} {x : Obj}
    (hv : wr.ownsRow base e 1 v n xs) (hv' : wr.ownsRow base e' 1 v' n' ys) (hs : Sep v v') (hb : Below base W wr) (hB : base ≤ wr.heap.size)
    (hg : (wr.alloc x).grownBy w1 v.ownBlock) (hat : v.ownBlock = some g ∨ g = wr.heap.size + 1) :
    w1.ownsRow base e' 1 v' n' ys ∧ Sep (.slice (some ⟨g, 0, none⟩) ln cap) v' ∧ Below base W w1 ∧ wr.heap.size + 1 ≤ w1.heap.size := by
  refine ⟨(hv'.alloc x).kept hg hs.kept, ?_, ?_, ?_⟩
  · intro g' h1 h2
    simp only [Value.ownBlock, Option.some.injEq] at h1
    subst h1
    rcases hat with h | h
    · exact hs _ h h2
    · have := (hv'.lt _ h2).2
      omega
  · exact (hb.alloc hB x).grown hg (by simp; omega) (fun k hk => (hv.lt k hk).1)
  · have := hg.size
    simpa using this

def vN (k : Nat) : Value := .int .i64 k

set_option maxRecDepth 100000 in
set_option maxHeartbeats 2000000 in
theorem lines30 (g o n c p : Nat) (t : Nat → Int) (w : World) (hn : n ≤ 1048576) (hp : p < n) (hc : Txt w g o n t) (hg : g < w.heap.size) :
    Calls Trym.prog 30 #[.slice (some ⟨g, o, none⟩) n c, .int .i64 p] w fun x w' => ∃ vs ve, x = .returned (.tuple #[vs, ve]) ∧
      w'.ownsRow w.heap.size 3 1 vs (linesF t (n - p) p p).length ((linesF t (n - p) p p).map fun q => vN q.1) ∧
      w'.ownsRow w.heap.size 3 1 ve (linesF t (n - p) p p).length ((linesF t (n - p) p p).map fun q => vN q.2) ∧ Below w.heap.size w w' := by
  obtain ⟨i0, hi, hz0, hz1, hz2⟩ := info_parts Trym.info3
  obtain ⟨L, hL⟩ : ∃ L, L = linesF t (n - p) p p := ⟨_, rfl⟩
  have HL : Hid (L = linesF t (n - p) p p) := hL
  have hLen : Hid (L.length ≤ n) := by
    have := linesF_len t (n - p) p p
    rw [← hL] at this
    unfold Hid; omega
  rw [← hL]
  clear hL
  go_enter Trym.func30, Trym.ntmps30
  go_wp2
  go_loopw [6, 7, 8, 9] (fun vs ve va vi wr => ∃ (k a : Nat) (S : List (Nat × Nat)), p ≤ k ∧ k ≤ n ∧ a ≤ k ∧ vi = .int .i64 k ∧ va = .int .i64 a ∧
      wr.ownsRow w.heap.size 3 1 vs S.length (S.map fun q => vN q.1) ∧ wr.ownsRow w.heap.size 3 1 ve S.length (S.map fun q => vN q.2) ∧ Sep vs ve ∧ Below w.heap.size w wr ∧
      Hid (S ++ linesF t (n - k) k a = L)) (fun _ _ _ vi _ => n - (intOf vi).toNat)
  case atStart => exact ⟨p, p, [], Nat.le_refl _, by omega, Nat.le_refl _, rfl, rfl, World.ownsRow_nil _ _ _ _, World.ownsRow_nil _ _ _ _, (fun g h => by cases h), Below.refl _ _, HL.out.symm⟩
  case round =>
    obtain ⟨k, a, S, hk1, hk2, hak, rfl, rfl, hs, he, hsep, hb, HS⟩ := hrel
    have hbs := hb.size
    by_cases hlt : k < n
    · have g1 : wr.cell? ⟨g, o + k, none⟩ = some (.int .u8 (t k)) := (hb.cell (by exact hg)).trans (hc k hlt)
      obtain ⟨x, hx⟩ : ∃ x, t k = x := ⟨_, rfl⟩
      rw [hx] at g1
      have HX : Hid (t k = x) := hx
      clear hx
      have HE : Hid (linesF t (n - k) k a = if t k = 10 then (a, k) :: linesF t (n - (k + 1)) (k + 1) (k + 1) else linesF t (n - (k + 1)) (k + 1) a) := by
        unfold Hid
        rw [show n - k = (n - (k + 1)) + 1 by omega]
        rfl
      by_cases h10 : x = 10
      · have HE' : Hid ((S ++ [(a, k)]) ++ linesF t (n - (k + 1)) (k + 1) (k + 1) = L) := by
          unfold Hid
          rw [← HS.out, HE.out, if_pos (HX.out.trans h10)]; simp
        have hSl : S.length < n := by
          have h1 := congrArg List.length HE'.out
          have h2 := hLen.out
          simp at h1; omega
        subst h10
        go_wp2_with (at_builtin; refine wpList_append_lies _ rfl (.tmp 23) (.tmp 25) 47 rfl w.heap.size 3 i0 (.int .i64 0) 1 8 Trym.underlying47 hi hz0 hz1 hz2 rfl (by decide) _ _ _ rfl (hs.alloc _) ⟨wr.heap.size, 0, none⟩ 1 1 [vN a] rfl rfl ?c1 ?c2 (by decide) ?c3 ?c4 ?c5 _ rfl ?_)
        case c1 =>
          intro j u hj
          match j, hj with
          | 0, hj => simp at hj; subst hj; simp [Addr.add, vN]
        case c2 => intro u hu; simp at hu; subst hu; rfl
        case c3 => unfold maxLen; omega
        case c4 => omega
        case c5 => simp; omega
        intro g1' cap1 w1 hown1 hgrow1 hat1 hlt1
        obtain ⟨he1, hsep1, hb1, hsz1⟩ := push_sep (ln := S.length + 1) (cap := cap1) hs he hsep hb hbs hgrow1 (by simpa using hat1)
        clear hs he hsep hgrow1 hat1 g1
        go_wp2_with (at_builtin; refine wpList_append_lies _ rfl (.tmp 27) (.tmp 29) 47 rfl w.heap.size 3 i0 (.int .i64 0) 1 8 Trym.underlying47 hi hz0 hz1 hz2 rfl (by decide) _ _ _ rfl (he1.alloc _) ⟨w1.heap.size, 0, none⟩ 1 1 [vN k] rfl rfl ?d1 ?d2 (by decide) ?d3 ?d4 ?d5 _ rfl ?_)
        case d1 =>
          intro j u hj
          match j, hj with
          | 0, hj => simp at hj; subst hj; simp [Addr.add, vN]
        case d2 => intro u hu; simp at hu; subst hu; rfl
        case d3 => unfold maxLen; omega
        case d4 => omega
        case d5 => simp; omega
        intro g2' cap2 w2 hown2 hgrow2 hat2 hlt2
        obtain ⟨hs2, hsep2, hb2, hsz2⟩ := push_sep (ln := S.length + 1) (cap := cap2) he1 hown1 hsep1.symm hb1 (by omega) hgrow2 (by simpa using hat2)
        clear he1 hown1 hsep1 hgrow2 hat2
        go_wp2
        go_roundw
        case rel => exact ⟨k + 1, k + 1, S ++ [(a, k)], by omega, by omega, Nat.le_refl _, by go_num, by go_num, by simpa using hs2, by simpa using hown2, hsep2.symm, hb2, HE'⟩
        case measure => simp [intOf]; omega
      · have e10 : (x == 10) = false := by simp [h10]
        have HE' : Hid (S ++ linesF t (n - (k + 1)) (k + 1) a = L) := by
          unfold Hid
          rw [← HS.out, HE.out, if_neg (fun h => h10 (HX.out.symm.trans h))]
        go_wp2
        go_roundw
        case rel => exact ⟨k + 1, a, S, by omega, by omega, by omega, by go_num, rfl, hs, he, hsep, hb, HE'⟩
        case measure => simp [intOf]; omega
    · have HE' : Hid (S = L) := by
        unfold Hid
        rw [← HS.out, show n - k = 0 by omega]; simp [linesF]
      go_wp2
      go_ret2
      exact ⟨_, _, rfl, HE'.out ▸ hs, HE'.out ▸ he, hb⟩

end Go.Proofs.Qxb6603316aMods
