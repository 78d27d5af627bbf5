import Derived.Test.Qxb6603316aModsPc
import Derived.Test.Qxb6603316aModsWi
namespace Go.Proofs.Qxb6603316aMods
open Go.RowKit
set_option linter.unusedVariables false

/-- the text and its lines, in memory -/
structure Stc (g n : Nat) (t : Nat → Int) (L : List (Nat × Nat)) (gs ge : Nat) (wr : World) : Prop where
  tx : Txt wr g 0 n t
  st : ∀ j, j < L.length → wr.cell? ⟨gs, j, none⟩ = some (.int .i64 (lst L j))
  en : ∀ j, j < L.length → wr.cell? ⟨ge, j, none⟩ = some (.int .i64 (lnd L j))

theorem Stc.below {g n : Nat} {t : Nat → Int} {L : List (Nat × Nat)} {gs ge b : Nat} {w wr : World} (h : Stc g n t L gs ge w) (hb : Below b w wr) (h1 : g < b) (h2 : gs < b) (h3 : ge < b) : Stc g n t L gs ge wr :=
  ⟨fun i hi => (hb.cell h1).trans (h.tx i hi), fun j hj => (hb.cell h2).trans (h.st j hj), fun j hj => (hb.cell h3).trans (h.en j hj)⟩

theorem Stc.drewN {g n : Nat} {t : Nat → Int} {L : List (Nat × Nat)} {gs ge : Nat} {w : World} (h : Stc g n t L gs ge w) (q : Nat) : Stc g n t L gs ge (w.drewN q) := ⟨h.tx, h.st, h.en⟩

theorem Stc.of {w0 w : World} {g n p gs cs ge ce : Nat} {t : Nat → Int} {L : List (Nat × Nat)} (hx : Txt w g 0 n t)
    (h1 : w.ownsRow p 3 1 (.slice (some ⟨gs, 0, none⟩) L.length cs) L.length (L.map fun q => vN q.1))
    (h2 : w.ownsRow p 3 1 (.slice (some ⟨ge, 0, none⟩) L.length ce) L.length (L.map fun q => vN q.2)) : Stc g n t L gs ge w :=
  ⟨hx, fun j hj => by rw [h1.cellAt j (by omega)]; simp [hj, lst, vN], fun j hj => by rw [h2.cellAt j (by omega)]; simp [hj, lnd, vN]⟩

def pcut (t : Nat → Int) (n a : Nat) : Nat := if colonB t n a then 0 else cutOf t n a
/-- the piece's contract as one equation -/
theorem piece31' (g o n c a e : Nat) (t : Nat → Int) (w : World) (hn : n ≤ 1048576) (hae : a < e) (he : e < n) (hc : Txt w g o n t) (hl : t (n - 1) = 10) (h10 : t e = 10) (hnon : Non (P1 t) a e) :
    Calls Trym.prog 31 #[.slice (some ⟨g, o, none⟩) n c, .int .i64 a, .int .i64 e] w fun x w' =>
      x = .returned (.tuple #[.bool (!(colonB t n a)), .int .i64 (pcut t n a), .int .i64 (stopOf t n a)]) ∧ w' = w := by
  refine (piece31 g o n c a e t w hn hae he hc hl h10 hnon).mono ?_
  rintro x w' ⟨⟨h1, rfl⟩ | ⟨h1, rfl⟩, hw⟩
  · exact ⟨by unfold pcut; rw [h1]; rfl, hw⟩
  · exact ⟨by unfold pcut; rw [h1]; rfl, hw⟩

theorem LineAt.stop {t : Nat → Int} {n j a : Nat} {L : List (Nat × Nat)} (h : LineAt t n L j a) (hl : t (n - 1) = 10) : stopOf t n a ≤ lnd L j ∧ (stopOf t n a ≠ lnd L j → t (stopOf t n a) ≠ 10) := by
  have ha : a < n := by have := h.le; have := h.en; omega
  have h1 := stopOf_fst t ha
  have h2 := stopOf_ge t n a
  constructor
  · rcases Nat.lt_or_ge (lnd L j) (stopOf t n a) with hh | hh
    · exact absurd (.inl h.brk) (h1.2.1 _ (by have := h.le; omega) hh)
    · exact hh
  · intro hne h10
    have hlt : stopOf t n a < lnd L j := by
      rcases Nat.lt_or_ge (stopOf t n a) (lnd L j) with hh | hh
      · exact hh
      · rcases Nat.lt_or_ge (lnd L j) (stopOf t n a) with h3 | h3
        · exact absurd (.inl h.brk) (h1.2.1 _ (by have := h.le; omega) h3)
        · omega
    exact h.non _ h2 hlt h10

/-- what the selection holds in memory -/
structure SelM (w1 : World) (g n : Nat) (t : Nat → Int) (L : List (Nat × Nat)) (gs ge M : Nat) (T F : List Nat) (vt vf : Value) (wr : World) : Prop where
  hT : wr.ownsRow w1.heap.size 3 1 vt M (T.map vN)
  hF : wr.ownsRow w1.heap.size 3 1 vf M (F.map vN)
  sep : Sep vt vf
  bel : Below w1.heap.size w1 wr
  st : Stc g n t L gs ge wr

theorem SelM.drewN {w1 : World} {g n : Nat} {t : Nat → Int} {L : List (Nat × Nat)} {gs ge M : Nat} {T F : List Nat} {vt vf : Value} {wr : World} (h : SelM w1 g n t L gs ge M T F vt vf wr) (q : Nat) : SelM w1 g n t L gs ge M T F vt vf (wr.drewN q) :=
  ⟨h.hT, h.hF, h.sep, below_drewN h.bel q, h.st.drewN q⟩

/-- what the folding holds in memory -/
structure FoldM (w2 : World) (v : Value) (acc : List Int) (wr : World) : Prop where
  own : wr.ownsRow w2.heap.size 5 1 v acc.length (u8s acc)
  bel : Below w2.heap.size w2 wr

theorem FoldM.drewN {w2 : World} {v : Value} {acc : List Int} {wr : World} (h : FoldM w2 v acc wr) (q : Nat) : FoldM w2 v acc (wr.drewN q) := ⟨h.own, below_drewN h.bel q⟩

theorem FoldM.push {w2 : World} {v v' : Value} {acc news : List Int} {m : Nat} {wr W w3 : World} (h : FoldM w2 v acc wr) (hW : wr.grownBy W none) (hm : news.length = m)
    (hown : w3.ownsRow w2.heap.size 5 1 v' (acc.length + m) (u8s acc ++ u8s news)) (hgr : W.grownBy w3 v.ownBlock) : FoldM w2 v' (acc ++ news) w3 := by
  subst hm
  have h1 := h.bel.size
  have h2 := hW.size
  refine ⟨by rw [u8s_append, List.length_append]; exact hown, ?_⟩
  exact (h.bel.grown hW h1 (fun k e => by cases e)).grown hgr (by omega) (fun k e => (h.own.lt k e).1)

theorem FoldM.rd {w2 : World} {v : Value} {acc : List Int} {wr : World} (h : FoldM w2 v acc wr) : Rd wr v acc := by
  rcases h.own.2 with ⟨h1, h2⟩ | ⟨g, cap, cur, h1, _⟩
  · exact ⟨none, 0, by rw [h1, h2], fun hne => absurd (List.eq_nil_of_length_eq_zero h2) hne⟩
  · refine ⟨_, cap, h1, fun _ => ⟨g, 0, rfl, fun i hi => ?_⟩⟩
    have := h.own
    rw [h1] at this
    rw [Nat.zero_add, this.cellAt i (by omega)]
    simp [u8s, hi]

/-- what stays while the folding goes -/
structure Fix (g n : Nat) (t : Nat → Int) (L : List (Nat × Nat)) (gs ge gt gf M : Nat) (T F : List Nat) (wr : World) : Prop where
  st : Stc g n t L gs ge wr
  cT : ∀ i, i < M → wr.cell? ⟨gt, i, none⟩ = some (.int .i64 (T.getD i 0))
  cF : ∀ i, i < M → wr.cell? ⟨gf, i, none⟩ = some (.int .i64 (F.getD i 0))

theorem Fix.below {g n : Nat} {t : Nat → Int} {L : List (Nat × Nat)} {gs ge gt gf M : Nat} {T F : List Nat} {w wr : World} {b : Nat} (h : Fix g n t L gs ge gt gf M T F w) (hb : Below b w wr) (h1 : g < b) (h2 : gs < b) (h3 : ge < b) (h4 : gt < b) (h5 : gf < b) :
    Fix g n t L gs ge gt gf M T F wr := ⟨h.st.below hb h1 h2 h3, fun i hi => (hb.cell h4).trans (h.cT i hi), fun i hi => (hb.cell h5).trans (h.cF i hi)⟩

theorem lead32' (g o n c a e ld : Nat) (t : Nat → Int) (w : World) (hn : n ≤ 1048576) (hae : a ≤ e) (he : e ≤ n) (hc : Txt w g o n t) (hld : ledE t a e = a + ld) :
    Calls Trym.prog 32 #[.slice (some ⟨g, o, none⟩) n c, .int .i64 a, .int .i64 e] w fun x w' => x = .returned (.int .i64 ld) ∧ w' = w := by
  refine (lead32 g o n c a e t w hn hae he hc).mono ?_
  rintro x w' ⟨rfl, hw⟩
  exact ⟨by rw [hld, Nat.add_sub_cancel_left], hw⟩

theorem results_tmp4 {fn : Func} {t u v x : Tmp} (h : fn.results = #[.tmp t, .tmp u, .tmp v, .tmp x]) (tmps : Array Value) (P : Program) (w : World) :
    (results fn tmps).run P w = .ok (.tuple #[tmps.getD t undef, tmps.getD u undef, tmps.getD v undef, tmps.getD x undef]) w := by
  simp [results, h]

theorem rowCell {w : World} {base g n cap : Nat} {T : List Nat} (h : w.ownsRow base 3 1 (.slice (some ⟨g, 0, none⟩) n cap) n (T.map vN)) {i : Nat} (hi : i < n) : w.cell? ⟨g, i, none⟩ = some (.int .i64 (T.getD i 0)) := by
  have hl : T.length = n := by simpa using h.1
  rw [h.cellAt i (by omega)]
  simp [vN, hl, hi]

end Go.Proofs.Qxb6603316aMods
