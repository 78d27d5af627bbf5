import Derived.Test.Qxb6603316aModsWh
namespace Go.Proofs.Qxb6603316aMods
open Go.RowKit
set_option linter.unusedVariables false

theorem cset_same {w : World} {a : Addr} {u v : Value} (h : w.cell? a = some u) : (w.setCell a v).cell? a = some v := by
  refine World.cell?_setCell_same (u := u) _ _ _ h
theorem cset_other {w : World} {a b : Addr} {v : Value} (h : a ≠ b) : (w.setCell a v).cell? b = w.cell? b := by
  refine World.cell?_setCell_other _ _ _ _ h

def u8s (xs : List Int) : List Value := xs.map (Value.int .u8)
theorem u8s_append (xs ys : List Int) : u8s (xs ++ ys) = u8s xs ++ u8s ys := by simp [u8s]
theorem u8s_length (xs : List Int) : (u8s xs).length = xs.length := by simp [u8s]
theorem u8s_one (xs : List Int) : ∀ u ∈ u8s xs, u.oneCell' = true := ints_oneCell _ _

/-- the slice v reads xs -/
def Rd (w : World) (v : Value) (xs : List Int) : Prop := ∃ a c, v = .slice a xs.length c ∧ (xs ≠ [] → ∃ g o, a = some ⟨g, o, none⟩ ∧ ∀ i, i < xs.length → w.cell? ⟨g, o + i, none⟩ = some (.int .u8 (xs.getD i 0)))

theorem Txt.rd {w : World} {g n : Nat} {t : Nat → Int} (h : Txt w g 0 n t) {a b c : Nat} (hb : b ≤ n) : Rd w (.slice (some ⟨g, a, none⟩) (b - a) c) (sub t a b) := by
  refine ⟨_, c, by rw [sub_length], fun _ => ⟨g, a, rfl, fun i hi => ?_⟩⟩
  rw [sub_length] at hi
  have := h (a + i) (by omega)
  rw [Nat.zero_add] at this
  rw [this]
  simp [sub, hi]

theorem Txt.news {w : World} {g n : Nat} {t : Nat → Int} (h : Txt w g 0 n t) {a b : Nat} (hb : b ≤ n) : ∀ j u, (u8s (sub t a b))[j]? = some u → w.cell? ((⟨g, a, none⟩ : Addr).add j) = some u := by
  intro j u hu
  have hj : j < b - a := by
    rcases Nat.lt_or_ge j (b - a) with h | h
    · exact h
    · rw [List.getElem?_eq_none (by simp [u8s, sub]; omega)] at hu; cases hu
  have hadd : (⟨g, a, none⟩ : Addr).add j = ⟨g, a + j, none⟩ := by
    unfold Addr.add
    split <;> simp_all
  have := h (a + j) (by omega)
  rw [Nat.zero_add] at this
  rw [hadd, this]
  simp [u8s, sub, hj] at hu
  rw [hu]

theorem Txt.news' {w : World} {g n : Nat} {t : Nat → Int} (h : Txt w g 0 n t) {a b : Nat} (hb : b ≤ n) : ∀ j u, (u8s (sub t a b))[j]? = some u → w.cell? ⟨g, a + j, none⟩ = some u := by
  intro j u hu
  have hadd : (⟨g, a, none⟩ : Addr).add j = ⟨g, a + j, none⟩ := by
    unfold Addr.add
    split <;> simp_all
  rw [← hadd]
  exact h.news hb j u hu

/-- the buffer as it came: full, its bytes in memory -/
structure Old (w0 : World) (v0 : Value) (nd : Nat) (D : List Int) (ao : Option Addr) : Prop where
  form : v0 = .slice ao nd nd
  nil : ao = none → nd = 0
  len : D.length = nd
  cells : ∀ b, ao = some b → ∀ j u, (u8s D)[j]? = some u → w0.cell? (b.add j) = some u
  low : ∀ b, ao = some b → b.block < w0.heap.size

/-- what the scanner's memory holds -/
structure Mem (w0 : World) (v0 : Value) (B g n nd : Nat) (t : Nat → Int) (D : List Int) (pos : Nat) (wr : World) (vd : Value) (acc : List Int) : Prop where
  c0 : wr.cell? ⟨B, 0, none⟩ = some (.slice (some ⟨g, 0, none⟩) n n)
  c1 : wr.cell? ⟨B, 1, none⟩ = some (.int .i64 pos)
  c7 : wr.cell? ⟨B, 7, none⟩ = some vd
  f1 : wr.frozen? ⟨B, 1, none⟩ = false
  f7 : wr.frozen? ⟨B, 7, none⟩ = false
  tx : Txt wr g 0 n t
  own : (acc = [] ∧ vd = v0) ∨ wr.ownsRow w0.heap.size 5 1 vd (nd + acc.length) (u8s (D ++ acc))
  nB : vd.ownBlock ≠ some B
  ng : vd.ownBlock ≠ some g
  bel : Below w0.heap.size w0 wr
  hB : B < wr.heap.size
  hg : g < wr.heap.size
  bB : w0.heap.size ≤ B
  gB : g ≠ B

/-- .. once the buffer is the call's own -/
structure MemO (w0 : World) (v0 : Value) (B g n nd : Nat) (t : Nat → Int) (D : List Int) (pos : Nat) (wr : World) (vd : Value) (acc : List Int) : Prop extends Mem w0 v0 B g n nd t D pos wr vd acc where
  row : wr.ownsRow w0.heap.size 5 1 vd (nd + acc.length) (u8s (D ++ acc))

section
variable {w0 : World} {v0 : Value} {B g n nd : Nat} {t : Nat → Int} {D : List Int} {pos : Nat} {wr : World} {vd : Value} {acc : List Int}

theorem Mem.bs (h : Mem w0 v0 B g n nd t D pos wr vd acc) : w0.heap.size ≤ wr.heap.size := h.bel.size

theorem Mem.drewN (h : Mem w0 v0 B g n nd t D pos wr vd acc) (q : Nat) : Mem w0 v0 B g n nd t D pos (wr.drewN q) vd acc :=
  ⟨h.c0, h.c1, h.c7, h.f1, h.f7, h.tx, h.own, h.nB, h.ng, below_drewN h.bel q, h.hB, h.hg, h.bB, h.gB⟩

/-- a store into the box -/
theorem Mem.boxed (h : Mem w0 v0 B g n nd t D pos wr vd acc) (o : Nat) (x : Value) (ho : o = 1 ∧ (∃ k : Nat, x = .int .i64 k) ∨ o = 7 ∧ x = vd) (k : Nat) (hk : o = 1 → x = .int .i64 k) (hk' : o = 7 → k = pos) :
    Mem w0 v0 B g n nd t D k (wr.setCell ⟨B, o, none⟩ x) vd acc := by
  have hgr : wr.grownBy (wr.setCell ⟨B, o, none⟩ x) (some B) := ⟨rfl, rfl, rfl, by simp [World.setCell], fun j _ hj => Below.heap_setCell _ _ _ _ (fun e => hj (by rw [e]))⟩
  have sz := hgr.size
  refine ⟨?_, ?_, ?_, by simpa using h.f1, by simpa using h.f7, ?_, ?_, h.nB, h.ng, h.bel.setCell h.bB _, by have := h.hB; omega, by have := h.hg; omega, h.bB, h.gB⟩
  · rw [cset_other (by rcases ho with ⟨rfl, _⟩ | ⟨rfl, _⟩ <;> simp)]; exact h.c0
  · rcases ho with ⟨rfl, _⟩ | ⟨rfl, _⟩
    · rw [hk rfl]; exact cset_same h.c1
    · rw [cset_other (by simp), hk' rfl]; exact h.c1
  · rcases ho with ⟨rfl, _⟩ | ⟨rfl, rfl⟩
    · rw [cset_other (by simp)]; exact h.c7
    · exact cset_same h.c7
  · intro i hi
    have hne : (⟨B, o, none⟩ : Addr) ≠ ⟨g, 0 + i, none⟩ := fun e => h.gB (by simpa using congrArg Addr.block e.symm)
    rw [cset_other hne]; exact h.tx i hi
  · rcases h.own with h1 | h1
    · exact .inl h1
    · exact .inr (h1.kept hgr (.inr h.nB))

theorem Mem.posed (h : Mem w0 v0 B g n nd t D pos wr vd acc) (k : Nat) : Mem w0 v0 B g n nd t D k (wr.setCell ⟨B, 1, none⟩ (.int .i64 k)) vd acc :=
  h.boxed 1 _ (.inl ⟨rfl, k, rfl⟩) k (fun _ => rfl) (fun e => by cases e)

/-- the same value stored anew -/
theorem Mem.same (h : Mem w0 v0 B g n nd t D pos wr vd acc) : Mem w0 v0 B g n nd t D pos (wr.setCell ⟨B, 7, none⟩ vd) vd acc :=
  h.boxed 7 _ (.inr ⟨rfl, rfl⟩) pos (fun e => by cases e) (fun _ => rfl)
theorem MemO.same (h : MemO w0 v0 B g n nd t D pos wr vd acc) : MemO w0 v0 B g n nd t D pos (wr.setCell ⟨B, 7, none⟩ vd) vd acc :=
  ⟨h.toMem.same, h.row.kept (row := some B) ⟨rfl, rfl, rfl, by simp [World.setCell], fun j _ hj => Below.heap_setCell _ _ _ _ (fun e => hj (by rw [e]))⟩ (.inr h.nB)⟩

/-- the value's shape -/
theorem MemO.shape (h : MemO w0 v0 B g n nd t D pos wr vd acc) : ∃ a c, vd = .slice a (nd + acc.length) c := by
  rcases h.row.2 with ⟨h1, h2⟩ | ⟨g', cap, cur, h1, _⟩
  · exact ⟨_, _, by rw [h1, h2]⟩
  · exact ⟨_, _, h1⟩

/-- between the append and the store -/
theorem Mem.mid (h : Mem w0 v0 B g n nd t D pos wr vd acc) {W w1 : World} (hW : wr.grownBy W none) {row : Option Nat} (hrow : row ≠ some B) (hgr : W.grownBy w1 row) : w1.cell? ⟨B, 7, none⟩ = some vd ∧ w1.frozen? ⟨B, 7, none⟩ = false := by
  have sz1 := hW.size
  have hB := h.hB
  have eB : w1.heap[B]? = wr.heap[B]? := (hgr.block B (by omega) (fun e => hrow e.symm)).trans (hW.block B hB (by simp))
  exact ⟨(World.cell?_of_block (w := wr) (w' := w1) (a := ⟨B, 7, none⟩) eB).trans h.c7, (World.frozen?_of_block (w := wr) (w' := w1) (a := ⟨B, 7, none⟩) eB).trans h.f7⟩

/-- behind 's.decoded = append(s.decoded, ..)', whatever its law -/
theorem Mem.after (h : Mem w0 v0 B g n nd t D pos wr vd acc) {w1 : World} {acc' : List Int} {v' : Value} {g' : Nat}
    (hsz : wr.heap.size ≤ w1.heap.size) (hblk : ∀ k, k < wr.heap.size → k = B ∨ k = g ∨ k < w0.heap.size → w1.heap[k]? = wr.heap[k]?) (hos : w1.os = wr.os ∧ w1.tape = wr.tape ∧ w1.output = wr.output)
    (hown : w1.ownsRow w0.heap.size 5 1 v' (nd + acc'.length) (u8s (D ++ acc'))) (hob : v'.ownBlock = some g') (hnB : g' ≠ B) (hng : g' ≠ g) :
    MemO w0 v0 B g n nd t D pos (w1.setCell ⟨B, 7, none⟩ v') v' acc' := by
  have hB := h.hB
  have hg := h.hg
  have eB := hblk B hB (.inl rfl)
  have eg := hblk g hg (.inr (.inl rfl))
  have k0 : w1.cell? ⟨B, 0, none⟩ = _ := (World.cell?_of_block (w := wr) (w' := w1) (a := ⟨B, 0, none⟩) eB).trans h.c0
  have k1 : w1.cell? ⟨B, 1, none⟩ = _ := (World.cell?_of_block (w := wr) (w' := w1) (a := ⟨B, 1, none⟩) eB).trans h.c1
  have k7 : w1.cell? ⟨B, 7, none⟩ = _ := (World.cell?_of_block (w := wr) (w' := w1) (a := ⟨B, 7, none⟩) eB).trans h.c7
  have k1f : w1.frozen? ⟨B, 1, none⟩ = _ := (World.frozen?_of_block (w := wr) (w' := w1) (a := ⟨B, 1, none⟩) eB).trans h.f1
  have k7f : w1.frozen? ⟨B, 7, none⟩ = _ := (World.frozen?_of_block (w := wr) (w' := w1) (a := ⟨B, 7, none⟩) eB).trans h.f7
  have hgr2 : w1.grownBy (w1.setCell ⟨B, 7, none⟩ v') (some B) := ⟨rfl, rfl, rfl, by simp [World.setCell], fun j _ hj => Below.heap_setCell _ _ _ _ (fun e => hj (by rw [e]))⟩
  have sz3 := hgr2.size
  have hs0 := h.bel.size
  have hb1 : Below w0.heap.size w0 w1 := h.bel.trans ⟨hos.1, hos.2.1, hos.2.2, hsz, fun k hk => hblk k (by omega) (.inr (.inr hk))⟩
  have hrow := hown.kept hgr2 (.inr (by rw [hob]; simpa using hnB))
  refine ⟨⟨?_, ?_, cset_same k7, by simpa using k1f, by simpa using k7f, ?_, .inr hrow, by rw [hob]; simpa using hnB, by rw [hob]; simpa using hng, hb1.setCell h.bB _, by omega, by omega, h.bB, h.gB⟩, hrow⟩
  · rw [cset_other (by simp)]; exact k0
  · rw [cset_other (by simp)]; exact k1
  · intro i hi
    have hne : (⟨B, 7, none⟩ : Addr) ≠ ⟨g, 0 + i, none⟩ := fun e => h.gB (by simpa using congrArg Addr.block e.symm)
    rw [cset_other hne]
    exact (World.cell?_of_block (w := wr) (w' := w1) (a := ⟨g, 0 + i, none⟩) eg).trans (h.tx i hi)

theorem MemO.stored (h : MemO w0 v0 B g n nd t D pos wr vd acc) {W w1 : World} (hW : wr.grownBy W none) {news : List Int} {g' cap m : Nat} (hm : news.length = m)
    (hown : w1.ownsRow w0.heap.size 5 1 (.slice (some ⟨g', 0, none⟩) (nd + acc.length + m) cap) (nd + acc.length + m) (u8s (D ++ acc) ++ u8s news))
    (hgr : W.grownBy w1 vd.ownBlock) (hat : vd.ownBlock = some g' ∨ g' = W.heap.size) (hlt : g' < w1.heap.size) :
    MemO w0 v0 B g n nd t D pos (w1.setCell ⟨B, 7, none⟩ (.slice (some ⟨g', 0, none⟩) (nd + acc.length + m) cap)) (.slice (some ⟨g', 0, none⟩) (nd + acc.length + m) cap) (acc ++ news) := by
  subst hm
  have sz1 := hW.size
  have sz2 := hgr.size
  have hB := h.hB
  have hg := h.hg
  refine h.toMem.after (g' := g') (by omega) ?_ ⟨hgr.os.trans hW.os, hgr.tape.trans hW.tape, hgr.output.trans hW.output⟩ ?_ rfl ?_ ?_
  · intro k hk hc
    have hv : some k ≠ vd.ownBlock := fun e => by
      rcases hc with rfl | rfl | hc
      · exact h.nB e.symm
      · exact h.ng e.symm
      · have := (h.row.lt k e.symm).1; omega
    exact (hgr.block k (by omega) hv).trans (hW.block k hk (by simp))
  · rw [← u8s_append, List.append_assoc] at hown
    rw [List.length_append, ← Nat.add_assoc]
    exact hown
  · rintro rfl
    rcases hat with e | e
    · exact h.nB e
    · omega
  · rintro rfl
    rcases hat with e | e
    · exact h.ng e
    · omega

/-- the first append: the buffer that came is full, so it is moved -/
theorem Mem.moved (h : Mem w0 v0 B g n nd t D pos wr vd []) {w1 : World} {news : List Int} {v' : Value} {m : Nat} (hm : news.length = m) (hm0 : 0 < m)
    (hown : w1.ownsRow wr.heap.size 5 1 v' (nd + m) (u8s D ++ u8s news)) (hgr : wr.grownBy w1 none) :
    MemO w0 v0 B g n nd t D pos (w1.setCell ⟨B, 7, none⟩ v') v' news := by
  subst hm
  obtain ⟨g', cap, hv, hb, hlt⟩ := hown.form (by omega)
  have hB := h.hB
  have hg := h.hg
  have hs0 := h.bel.size
  refine h.after hgr.size (fun k hk _ => hgr.block k hk (by simp)) ⟨hgr.os, hgr.tape, hgr.output⟩ ?_ (g' := g') (by rw [hv]; rfl) (by omega) (by omega)
  refine ⟨by rw [← u8s_append] at hown; exact hown.1, ?_⟩
  have := hown.2
  rw [← u8s_append] at this
  rcases this with h1 | ⟨g2, c2, cur, h1, h2, h3⟩
  · exact .inl h1
  · exact .inr ⟨g2, c2, cur, h1, by omega, h3⟩

/-- what was appended, read as a slice -/
theorem MemO.rd {g' ln cap : Nat} (h : MemO w0 v0 B g n nd t D pos wr (.slice (some ⟨g', 0, none⟩) ln cap) acc) (hD : D.length = nd) (hln : ln = nd + acc.length) (c : Nat) : Rd wr (.slice (some ⟨g', nd, none⟩) (ln - nd) c) acc := by
  refine ⟨_, c, by rw [hln]; congr 1; omega, fun _ => ⟨g', nd, rfl, fun i hi => ?_⟩⟩
  subst hln
  have := h.row.cellAt (nd + i) (by omega)
  rw [this]
  have : (D ++ acc)[nd + i]? = some (acc.getD i 0) := by
    rw [List.getElem?_append_right (by omega), hD, Nat.add_sub_cancel_left]
    simp [hi]
  simp only [u8s, List.getElem?_map, this, Option.map_some]

/-- what the scanner's value looks like -/
def VForm (g n nd p : Nat) (m : Bool) (pos : Nat) (acc : List Int) (vd v : Value) : Prop :=
  (m = false ∧ v = .slice (some ⟨g, p, none⟩) (pos - p) (n - p)) ∨
  (m = true ∧ ∃ g' cap c lv ln, lv = nd + acc.length ∧ ln = acc.length ∧ vd = .slice (some ⟨g', 0, none⟩) lv cap ∧ v = .slice (some ⟨g', nd, none⟩) ln c)

theorem VForm.rd {p : Nat} {m : Bool} {pos k : Nat} {v : Value} (h : VForm g n nd p m pos acc vd v) (hM : Mem w0 v0 B g n nd t D k wr vd acc) (hD : D.length = nd) (hp : pos ≤ n) : Rd wr v (if m then acc else sub t p pos) := by
  rcases h with ⟨h1, h2⟩ | ⟨h1, g', cap, c, lv, ln, e1, e2, h2, h3⟩
  · rw [h1, h2]; exact hM.tx.rd hp
  · rw [h1, h3]
    rcases hM.own with ⟨h4, _⟩ | h4
    · exact ⟨_, c, by rw [e2]; rfl, fun hne => absurd h4 hne⟩
    · have hO : MemO w0 v0 B g n nd t D k wr vd acc := ⟨hM, h4⟩
      rw [h2] at hO
      have := hO.rd hD e1 c
      rw [e1, Nat.add_sub_cancel_left] at this
      rw [e2]
      exact this

theorem own_cap {w : World} {base e g n cap : Nat} {xs : List Value} (h : w.ownsRow base e 1 (.slice (some ⟨g, 0, none⟩) n cap) n xs) : n ≤ cap := by
  rcases h.2 with ⟨h', _⟩ | ⟨g', cap', cur, h', _, _, hnc, _⟩
  · simp at h'
  · simp only [Value.slice.injEq, Option.some.injEq, Addr.mk.injEq, and_true, true_and] at h'
    omega

theorem Old.at {ao : Option Addr} (h : Old w0 v0 nd D ao) (hb : Below w0.heap.size w0 wr) : ∀ b, ao = some b → ∀ j u, (u8s D)[j]? = some u → wr.cell? (b.add j) = some u := fun b e j u hu => by
  have h1 : (b.add j).block = b.block := by unfold Addr.add; split <;> rfl
  rw [hb.cell (by rw [h1]; exact h.low b e)]
  exact h.cells b e j u hu
end

end Go.Proofs.Qxb6603316aMods
